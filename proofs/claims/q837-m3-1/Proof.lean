import JvmDerived
import JvmDerived.Pilot.@@N@@Statement
import JvmDerived.Pilot.@@N@@Code
set_option linter.unusedVariables false
set_option linter.unusedSimpArgs false
@@BLOCK:NumsL.lean.txt@@
namespace Jvm.Pilot.@@N@@
open Jvm Jvm.ClassFile Sem Op Lib Jvm.Free Jvm.Stand Jvm.LawKit Jvm.RoadKit Bundle Jvm.Pilot.@@N@@.Jvm.D

section OwnKit
variable {p : Program} {l : Launch} {e : Env} {R : Room} {s : State} {m : MethodId} {args : Array Value} {below : List Frame} {meth : Method} {c : Code} {T T' : State} {locs : List Loc} {cells slots C S : Nat} {Nd : Outcome → State → List Loc → Prop} {Q : Option Value → Heap → List Loc → Prop} {pc n : Nat} {Ls Ls' : Array Slot} {st : List Value} {g g' : JFrame} {Z : State} {a0 : Array Value} {h : Heap}
/-- from T, with the frame g on top, the method comes to its end, and Q is said of what it returns, of the heap and of the places written -/
def Go (p : Program) (e : Env) (below : List Frame) (Nd : Outcome → State → List Loc → Prop) (Q : Option Value → Heap → List Loc → Prop) (T : State) (g : JFrame) : Prop :=
  ∃ s₂ o, Steps p.tables e below (T.setTop g) s₂ ∧ s₂.status = .running ∧ Ended s₂ below o ∧ ∃ v L, o = .returned v ∧ Q v s₂.heap L ∧ Nd o s₂ L
/-- the narrow end, and the wide one (String constants may have come) -/
def Fe (s : State) (C S : Nat) (o : Outcome) (t : State) (L : List Loc) : Prop := FrameEnd s o t L C S
def Fw (s : State) (C S : Nat) (o : Outcome) (t : State) (L : List Loc) : Prop := ReturnedEndW s o t L C S
theorem Fe.of {v : Option Value} (hC : cells ≤ C) (hS : slots ≤ S) : ∀ t, FrameEnd s (.returned v) t locs cells slots → t.heap = T.heap → Fe s C S (.returned v) t locs := fun t q _ => ⟨q.1, q.2.1, q.2.2.mono hC hS⟩
theorem Go.stp (q : ∀ t, Steps p.tables e below (T'.setTop g') t → Steps p.tables e below (T.setTop g) t) (k : Go p e below Nd Q T' g') : Go p e below Nd Q T g := by
  obtain ⟨s₂, o, h1, h2⟩ := k; exact ⟨s₂, o, q _ h1, h2⟩
theorem Go.tr (q : Steps p.tables e below (T.setTop g) (T'.setTop g')) (k : Go p e below Nd Q T' g') : Go p e below Nd Q T g := Go.stp (fun _ r => q.trans r) k
theorem Go.mono {Q' : Option Value → Heap → List Loc → Prop} (k : Go p e below Nd Q T g) (q : ∀ v h L, Q v h L → Q' v h L) : Go p e below Nd Q' T g := by
  obtain ⟨s₂, o, h1, h2, h3, v, L, h4, h5, h6⟩ := k; exact ⟨s₂, o, h1, h2, h3, v, L, h4, q _ _ _ h5, h6⟩
theorem g_aloadN (X : Stand p l e R s m args below meth c T locs cells slots) (hx : p.tables.exec = Jvm.exec) {k : Fin 4} {v : Value} (hd : decode c.code pc = .ok (.aload_n k, 1)) (hn : pc + 1 = n) (hl : Ls[k.val]? = some (.val v)) (hv : v.isRef = true) (k : Go p e below Nd Q T (mkF m n Ls (v :: st))) : Go p e below Nd Q T (mkF m pc Ls st) := by
  subst hn; exact Go.stp (fun t q => XS.aloadN X.here hx rfl hd hl hv q) k
theorem g_aload (X : Stand p l e R s m args below meth c T locs cells slots) (hx : p.tables.exec = Jvm.exec) {k : Nat} {v : Value} (hd : decode c.code pc = .ok (.aload k, 2)) (hn : pc + 2 = n) (hl : Ls[k]? = some (.val v)) (hv : v.isRef = true) (k : Go p e below Nd Q T (mkF m n Ls (v :: st))) : Go p e below Nd Q T (mkF m pc Ls st) := by
  subst hn; exact Go.stp (fun t q => XS.aload X.here hx rfl hd hl hv q) k
theorem g_iloadN (X : Stand p l e R s m args below meth c T locs cells slots) (hx : p.tables.exec = Jvm.exec) {k : Fin 4} {v : Int32} (hd : decode c.code pc = .ok (.iload_n k, 1)) (hn : pc + 1 = n) (hl : Ls[k.val]? = some (.val (.int v))) (k : Go p e below Nd Q T (mkF m n Ls (.int v :: st))) : Go p e below Nd Q T (mkF m pc Ls st) := by
  subst hn; exact Go.stp (fun t q => XS.iloadN X.here hx rfl hd hl q) k
theorem g_iload (X : Stand p l e R s m args below meth c T locs cells slots) (hx : p.tables.exec = Jvm.exec) {k : Nat} {v : Int32} (hd : decode c.code pc = .ok (.iload k, 2)) (hn : pc + 2 = n) (hl : Ls[k]? = some (.val (.int v))) (k : Go p e below Nd Q T (mkF m n Ls (.int v :: st))) : Go p e below Nd Q T (mkF m pc Ls st) := by
  subst hn; exact Go.stp (fun t q => XS.iload X.here hx rfl hd hl q) k
theorem g_istoreN (X : Stand p l e R s m args below meth c T locs cells slots) (hx : p.tables.exec = Jvm.exec) {k : Fin 4} {v : Int32} (hd : decode c.code pc = .ok (.istore_n k, 1)) (hn : pc + 1 = n) (Ls' : Array Slot) (hl : storeLocals Ls k.val (.int v) = some Ls') (k : Go p e below Nd Q T (mkF m n Ls' st)) : Go p e below Nd Q T (mkF m pc Ls (.int v :: st)) := by
  subst hn; exact Go.stp (fun t q => XS.istoreN X.here hx rfl hd rfl hl q) k
theorem g_istore (X : Stand p l e R s m args below meth c T locs cells slots) (hx : p.tables.exec = Jvm.exec) {k : Nat} {v : Int32} (hd : decode c.code pc = .ok (.istore k, 2)) (hn : pc + 2 = n) (Ls' : Array Slot) (hl : storeLocals Ls k (.int v) = some Ls') (k : Go p e below Nd Q T (mkF m n Ls' st)) : Go p e below Nd Q T (mkF m pc Ls (.int v :: st)) := by
  subst hn; exact Go.stp (fun t q => XS.istore X.here hx rfl hd rfl hl q) k
theorem g_lloadN (X : Stand p l e R s m args below meth c T locs cells slots) (hx : p.tables.exec = Jvm.exec) {k : Fin 4} {v : Int64} (hd : decode c.code pc = .ok (.lload_n k, 1)) (hn : pc + 1 = n) (hl : Ls[k.val]? = some (.val (.long v))) (k : Go p e below Nd Q T (mkF m n Ls (.long v :: st))) : Go p e below Nd Q T (mkF m pc Ls st) := by
  subst hn; exact Go.stp (fun t q => XT.lloadN X.here hx rfl hd hl q) k
theorem g_lload (X : Stand p l e R s m args below meth c T locs cells slots) (hx : p.tables.exec = Jvm.exec) {k : Nat} {v : Int64} (hd : decode c.code pc = .ok (.lload k, 2)) (hn : pc + 2 = n) (hl : Ls[k]? = some (.val (.long v))) (k : Go p e below Nd Q T (mkF m n Ls (.long v :: st))) : Go p e below Nd Q T (mkF m pc Ls st) := by
  subst hn; exact Go.stp (fun t q => XT.lload X.here hx rfl hd hl q) k
theorem g_lstoreN (X : Stand p l e R s m args below meth c T locs cells slots) (hx : p.tables.exec = Jvm.exec) {k : Fin 4} {v : Int64} (hd : decode c.code pc = .ok (.lstore_n k, 1)) (hn : pc + 1 = n) (Ls' : Array Slot) (hl : storeLocals Ls k.val (.long v) = some Ls') (k : Go p e below Nd Q T (mkF m n Ls' st)) : Go p e below Nd Q T (mkF m pc Ls (.long v :: st)) := by
  subst hn; exact Go.stp (fun t q => XT.lstoreN X.here hx rfl hd rfl hl q) k
theorem g_lstore (X : Stand p l e R s m args below meth c T locs cells slots) (hx : p.tables.exec = Jvm.exec) {k : Nat} {v : Int64} (hd : decode c.code pc = .ok (.lstore k, 2)) (hn : pc + 2 = n) (Ls' : Array Slot) (hl : storeLocals Ls k (.long v) = some Ls') (k : Go p e below Nd Q T (mkF m n Ls' st)) : Go p e below Nd Q T (mkF m pc Ls (.long v :: st)) := by
  subst hn; exact Go.stp (fun t q => XT.lstore X.here hx rfl hd rfl hl q) k
theorem g_astoreN (X : Stand p l e R s m args below meth c T locs cells slots) (hx : p.tables.exec = Jvm.exec) {k : Fin 4} {v : Value} (hd : decode c.code pc = .ok (.astore_n k, 1)) (hn : pc + 1 = n) (hv : v.isRef = true) (Ls' : Array Slot) (hl : storeLocals Ls k.val v = some Ls') (k : Go p e below Nd Q T (mkF m n Ls' st)) : Go p e below Nd Q T (mkF m pc Ls (v :: st)) := by
  subst hn; exact Go.stp (fun t q => XS.astoreN X.here hx rfl hd rfl hv hl q) k
theorem g_astore (X : Stand p l e R s m args below meth c T locs cells slots) (hx : p.tables.exec = Jvm.exec) {k : Nat} {v : Value} (hd : decode c.code pc = .ok (.astore k, 2)) (hn : pc + 2 = n) (hv : v.isRef = true) (Ls' : Array Slot) (hl : storeLocals Ls k v = some Ls') (k : Go p e below Nd Q T (mkF m n Ls' st)) : Go p e below Nd Q T (mkF m pc Ls (v :: st)) := by
  subst hn; exact Go.stp (fun t q => XS.astore X.here hx rfl hd rfl hv hl q) k
theorem g_iconst (X : Stand p l e R s m args below meth c T locs cells slots) (hx : p.tables.exec = Jvm.exec) {i : Int} (v : Int32) (hd : decode c.code pc = .ok (.iconst i, 1)) (hn : pc + 1 = n) (hv : Int32.ofInt i = v) (k : Go p e below Nd Q T (mkF m n Ls (.int v :: st))) : Go p e below Nd Q T (mkF m pc Ls st) := by
  subst hn hv; exact Go.stp (fun t q => XS.iconst X.here hx rfl hd q) k
theorem g_bipush (X : Stand p l e R s m args below meth c T locs cells slots) (hx : p.tables.exec = Jvm.exec) {i : Int} (v : Int32) (hd : decode c.code pc = .ok (.bipush i, 2)) (hn : pc + 2 = n) (hv : (Int8.ofInt i).toInt32 = v) (k : Go p e below Nd Q T (mkF m n Ls (.int v :: st))) : Go p e below Nd Q T (mkF m pc Ls st) := by
  subst hn hv; exact Go.stp (fun t q => XS.bipush X.here hx rfl hd q) k
theorem g_sipush (X : Stand p l e R s m args below meth c T locs cells slots) (hx : p.tables.exec = Jvm.exec) {i : Int} (v : Int32) (hd : decode c.code pc = .ok (.sipush i, 3)) (hn : pc + 3 = n) (hv : (Int16.ofInt i).toInt32 = v) (k : Go p e below Nd Q T (mkF m n Ls (.int v :: st))) : Go p e below Nd Q T (mkF m pc Ls st) := by
  subst hn hv; exact Go.stp (fun t q => XS.sipush X.here hx rfl hd q) k
theorem g_lconst (X : Stand p l e R s m args below meth c T locs cells slots) (hx : p.tables.exec = Jvm.exec) {j : Fin 2} (v : Int64) (hd : decode c.code pc = .ok (.lconst j, 1)) (hn : pc + 1 = n) (hv : Int64.ofNat j = v) (k : Go p e below Nd Q T (mkF m n Ls (.long v :: st))) : Go p e below Nd Q T (mkF m pc Ls st) := by
  subst hn hv; exact Go.stp (fun t q => XT.lconst X.here hx rfl hd q) k
theorem g_aconstNull (X : Stand p l e R s m args below meth c T locs cells slots) (hx : p.tables.exec = Jvm.exec) (hd : decode c.code pc = .ok (.aconst_null, 1)) (hn : pc + 1 = n) (k : Go p e below Nd Q T (mkF m n Ls (.null :: st))) : Go p e below Nd Q T (mkF m pc Ls st) := by
  subst hn; exact Go.stp (fun t q => XS.aconstNull X.here hx rfl hd q) k
theorem g_iadd (X : Stand p l e R s m args below meth c T locs cells slots) (hx : p.tables.exec = Jvm.exec) {x y : Int32} (hd : decode c.code pc = .ok (.iadd, 1)) (hn : pc + 1 = n) (k : Go p e below Nd Q T (mkF m n Ls (.int (x + y) :: st))) : Go p e below Nd Q T (mkF m pc Ls (.int y :: .int x :: st)) := by
  subst hn; exact Go.stp (fun t q => XS.iadd X.here hx rfl hd rfl q) k
theorem g_isub (X : Stand p l e R s m args below meth c T locs cells slots) (hx : p.tables.exec = Jvm.exec) {x y : Int32} (hd : decode c.code pc = .ok (.isub, 1)) (hn : pc + 1 = n) (k : Go p e below Nd Q T (mkF m n Ls (.int (x - y) :: st))) : Go p e below Nd Q T (mkF m pc Ls (.int y :: .int x :: st)) := by
  subst hn; exact Go.stp (fun t q => XS.isub X.here hx rfl hd rfl q) k
theorem g_imul (X : Stand p l e R s m args below meth c T locs cells slots) (hx : p.tables.exec = Jvm.exec) {x y : Int32} (hd : decode c.code pc = .ok (.imul, 1)) (hn : pc + 1 = n) (k : Go p e below Nd Q T (mkF m n Ls (.int (x * y) :: st))) : Go p e below Nd Q T (mkF m pc Ls (.int y :: .int x :: st)) := by
  subst hn; exact Go.stp (fun t q => XS.imul X.here hx rfl hd rfl q) k
theorem g_iand (X : Stand p l e R s m args below meth c T locs cells slots) (hx : p.tables.exec = Jvm.exec) {x y : Int32} (hd : decode c.code pc = .ok (.iand, 1)) (hn : pc + 1 = n) (k : Go p e below Nd Q T (mkF m n Ls (.int (x &&& y) :: st))) : Go p e below Nd Q T (mkF m pc Ls (.int y :: .int x :: st)) := by
  subst hn; exact Go.stp (fun t q => XS.iand X.here hx rfl hd rfl q) k
theorem g_ior (X : Stand p l e R s m args below meth c T locs cells slots) (hx : p.tables.exec = Jvm.exec) {x y : Int32} (hd : decode c.code pc = .ok (.ior, 1)) (hn : pc + 1 = n) (k : Go p e below Nd Q T (mkF m n Ls (.int (x ||| y) :: st))) : Go p e below Nd Q T (mkF m pc Ls (.int y :: .int x :: st)) := by
  subst hn; exact Go.stp (fun t q => XT.ior X.here hx rfl hd rfl q) k
theorem g_ixor (X : Stand p l e R s m args below meth c T locs cells slots) (hx : p.tables.exec = Jvm.exec) {x y : Int32} (hd : decode c.code pc = .ok (.ixor, 1)) (hn : pc + 1 = n) (k : Go p e below Nd Q T (mkF m n Ls (.int (x ^^^ y) :: st))) : Go p e below Nd Q T (mkF m pc Ls (.int y :: .int x :: st)) := by
  subst hn; exact Go.stp (fun t q => XT.ixor X.here hx rfl hd rfl q) k
theorem g_ishl (X : Stand p l e R s m args below meth c T locs cells slots) (hx : p.tables.exec = Jvm.exec) {x y : Int32} (hd : decode c.code pc = .ok (.ishl, 1)) (hn : pc + 1 = n) (k : Go p e below Nd Q T (mkF m n Ls (.int (x <<< (y &&& 31)) :: st))) : Go p e below Nd Q T (mkF m pc Ls (.int y :: .int x :: st)) := by
  subst hn; exact Go.stp (fun t q => XT.ishl X.here hx rfl hd rfl q) k
theorem g_ishr (X : Stand p l e R s m args below meth c T locs cells slots) (hx : p.tables.exec = Jvm.exec) {x y : Int32} (hd : decode c.code pc = .ok (.ishr, 1)) (hn : pc + 1 = n) (k : Go p e below Nd Q T (mkF m n Ls (.int (x >>> (y &&& 31)) :: st))) : Go p e below Nd Q T (mkF m pc Ls (.int y :: .int x :: st)) := by
  subst hn; exact Go.stp (fun t q => XT.ishr X.here hx rfl hd rfl q) k
theorem g_iushr (X : Stand p l e R s m args below meth c T locs cells slots) (hx : p.tables.exec = Jvm.exec) {x y : Int32} (hd : decode c.code pc = .ok (.iushr, 1)) (hn : pc + 1 = n) (k : Go p e below Nd Q T (mkF m n Ls (.int (XT.ushr x y) :: st))) : Go p e below Nd Q T (mkF m pc Ls (.int y :: .int x :: st)) := by
  subst hn; exact Go.stp (fun t q => XT.iushr X.here hx rfl hd rfl q) k
theorem g_irem (X : Stand p l e R s m args below meth c T locs cells slots) (hx : p.tables.exec = Jvm.exec) {x y : Int32} (hd : decode c.code pc = .ok (.irem, 1)) (hn : pc + 1 = n) (hy : y ≠ 0) (k : Go p e below Nd Q T (mkF m n Ls (.int (x % y) :: st))) : Go p e below Nd Q T (mkF m pc Ls (.int y :: .int x :: st)) := by
  subst hn; exact Go.stp (fun t q => iremM X hx rfl hd rfl hy q) k
theorem g_ladd (X : Stand p l e R s m args below meth c T locs cells slots) (hx : p.tables.exec = Jvm.exec) {x y : Int64} (hd : decode c.code pc = .ok (.ladd, 1)) (hn : pc + 1 = n) (k : Go p e below Nd Q T (mkF m n Ls (.long (x + y) :: st))) : Go p e below Nd Q T (mkF m pc Ls (.long y :: .long x :: st)) := by
  subst hn; exact Go.stp (fun t q => XT.ladd X.here hx rfl hd rfl q) k
theorem g_lsub (X : Stand p l e R s m args below meth c T locs cells slots) (hx : p.tables.exec = Jvm.exec) {x y : Int64} (hd : decode c.code pc = .ok (.lsub, 1)) (hn : pc + 1 = n) (k : Go p e below Nd Q T (mkF m n Ls (.long (x - y) :: st))) : Go p e below Nd Q T (mkF m pc Ls (.long y :: .long x :: st)) := by
  subst hn; exact Go.stp (fun t q => XT.lsub X.here hx rfl hd rfl q) k
theorem g_lmul (X : Stand p l e R s m args below meth c T locs cells slots) (hx : p.tables.exec = Jvm.exec) {x y : Int64} (hd : decode c.code pc = .ok (.lmul, 1)) (hn : pc + 1 = n) (k : Go p e below Nd Q T (mkF m n Ls (.long (x * y) :: st))) : Go p e below Nd Q T (mkF m pc Ls (.long y :: .long x :: st)) := by
  subst hn; exact Go.stp (fun t q => XT.lmul X.here hx rfl hd rfl q) k
theorem g_land (X : Stand p l e R s m args below meth c T locs cells slots) (hx : p.tables.exec = Jvm.exec) {x y : Int64} (hd : decode c.code pc = .ok (.land, 1)) (hn : pc + 1 = n) (k : Go p e below Nd Q T (mkF m n Ls (.long (x &&& y) :: st))) : Go p e below Nd Q T (mkF m pc Ls (.long y :: .long x :: st)) := by
  subst hn; exact Go.stp (fun t q => XT.land X.here hx rfl hd rfl q) k
theorem g_ldiv (X : Stand p l e R s m args below meth c T locs cells slots) (hx : p.tables.exec = Jvm.exec) {x y : Int64} (hd : decode c.code pc = .ok (.ldiv, 1)) (hn : pc + 1 = n) (hy : y ≠ 0) (k : Go p e below Nd Q T (mkF m n Ls (.long (x / y) :: st))) : Go p e below Nd Q T (mkF m pc Ls (.long y :: .long x :: st)) := by
  subst hn; exact Go.stp (fun t q => XT.ldiv X.here hx rfl hd rfl hy q) k
theorem g_lrem (X : Stand p l e R s m args below meth c T locs cells slots) (hx : p.tables.exec = Jvm.exec) {x y : Int64} (hd : decode c.code pc = .ok (.lrem, 1)) (hn : pc + 1 = n) (hy : y ≠ 0) (k : Go p e below Nd Q T (mkF m n Ls (.long (x - (x / y) * y) :: st))) : Go p e below Nd Q T (mkF m pc Ls (.long y :: .long x :: st)) := by
  subst hn; exact Go.stp (fun t q => XT.lrem X.here hx rfl hd rfl hy q) k
theorem g_lcmp (X : Stand p l e R s m args below meth c T locs cells slots) (hx : p.tables.exec = Jvm.exec) {x y : Int64} (hd : decode c.code pc = .ok (.lcmp, 1)) (hn : pc + 1 = n) (k : Go p e below Nd Q T (mkF m n Ls (.int (XT.cmpL x y) :: st))) : Go p e below Nd Q T (mkF m pc Ls (.long y :: .long x :: st)) := by
  subst hn; exact Go.stp (fun t q => XT.lcmp X.here hx rfl hd rfl q) k
theorem g_lshr (X : Stand p l e R s m args below meth c T locs cells slots) (hx : p.tables.exec = Jvm.exec) {x : Int64} {y : Int32} (hd : decode c.code pc = .ok (.lshr, 1)) (hn : pc + 1 = n) (k : Go p e below Nd Q T (mkF m n Ls (.long (x >>> (y.toInt64 &&& 63)) :: st))) : Go p e below Nd Q T (mkF m pc Ls (.int y :: .long x :: st)) := by
  subst hn; exact Go.stp (fun t q => XT.lshr X.here hx rfl hd rfl q) k
theorem g_lushr (X : Stand p l e R s m args below meth c T locs cells slots) (hx : p.tables.exec = Jvm.exec) {x : Int64} {y : Int32} (hd : decode c.code pc = .ok (.lushr, 1)) (hn : pc + 1 = n) (k : Go p e below Nd Q T (mkF m n Ls (.long (XT.ushrL x y) :: st))) : Go p e below Nd Q T (mkF m pc Ls (.int y :: .long x :: st)) := by
  subst hn; exact Go.stp (fun t q => XT.lushr X.here hx rfl hd rfl q) k
theorem g_lneg (X : Stand p l e R s m args below meth c T locs cells slots) (hx : p.tables.exec = Jvm.exec) {x : Int64} (hd : decode c.code pc = .ok (.lneg, 1)) (hn : pc + 1 = n) (k : Go p e below Nd Q T (mkF m n Ls (.long (-x) :: st))) : Go p e below Nd Q T (mkF m pc Ls (.long x :: st)) := by
  subst hn; exact Go.stp (fun t q => XT.lneg X.here hx rfl hd rfl q) k
theorem g_i2l (X : Stand p l e R s m args below meth c T locs cells slots) (hx : p.tables.exec = Jvm.exec) {x : Int32} (hd : decode c.code pc = .ok (.i2l, 1)) (hn : pc + 1 = n) (k : Go p e below Nd Q T (mkF m n Ls (.long x.toInt64 :: st))) : Go p e below Nd Q T (mkF m pc Ls (.int x :: st)) := by
  subst hn; exact Go.stp (fun t q => XT.i2l X.here hx rfl hd rfl q) k
theorem g_l2i (X : Stand p l e R s m args below meth c T locs cells slots) (hx : p.tables.exec = Jvm.exec) {x : Int64} (hd : decode c.code pc = .ok (.l2i, 1)) (hn : pc + 1 = n) (k : Go p e below Nd Q T (mkF m n Ls (.int x.toInt32 :: st))) : Go p e below Nd Q T (mkF m pc Ls (.long x :: st)) := by
  subst hn; exact Go.stp (fun t q => XT.l2i X.here hx rfl hd rfl q) k
theorem g_i2b (X : Stand p l e R s m args below meth c T locs cells slots) (hx : p.tables.exec = Jvm.exec) {x : Int32} (hd : decode c.code pc = .ok (.i2b, 1)) (hn : pc + 1 = n) (k : Go p e below Nd Q T (mkF m n Ls (.int x.toInt8.toInt32 :: st))) : Go p e below Nd Q T (mkF m pc Ls (.int x :: st)) := by
  subst hn; exact Go.stp (fun t q => XT.i2b X.here hx rfl hd rfl q) k
theorem g_i2c (X : Stand p l e R s m args below meth c T locs cells slots) (hx : p.tables.exec = Jvm.exec) {x : Int32} (hd : decode c.code pc = .ok (.i2c, 1)) (hn : pc + 1 = n) (k : Go p e below Nd Q T (mkF m n Ls (.int x.toUInt32.toUInt16.toUInt32.toInt32 :: st))) : Go p e below Nd Q T (mkF m pc Ls (.int x :: st)) := by
  subst hn; exact Go.stp (fun t q => XT.i2c X.here hx rfl hd rfl q) k
theorem g_dup (X : Stand p l e R s m args below meth c T locs cells slots) (hx : p.tables.exec = Jvm.exec) {x : Value} (hd : decode c.code pc = .ok (.dup, 1)) (hn : pc + 1 = n) (hc : x.category = 1) (k : Go p e below Nd Q T (mkF m n Ls (x :: x :: st))) : Go p e below Nd Q T (mkF m pc Ls (x :: st)) := by
  subst hn; exact Go.stp (fun t q => XS.dup X.here hx rfl hd rfl hc q) k
theorem g_dupX1 (X : Stand p l e R s m args below meth c T locs cells slots) (hx : p.tables.exec = Jvm.exec) {x y : Value} (hd : decode c.code pc = .ok (.dup_x1, 1)) (hn : pc + 1 = n) (hc : x.category = 1) (hc' : y.category = 1) (k : Go p e below Nd Q T (mkF m n Ls (x :: y :: x :: st))) : Go p e below Nd Q T (mkF m pc Ls (x :: y :: st)) := by
  subst hn; exact Go.stp (fun t q => XT.dupX1 X.here hx rfl hd rfl hc hc' q) k
theorem g_pop (X : Stand p l e R s m args below meth c T locs cells slots) (hx : p.tables.exec = Jvm.exec) {x : Value} (hd : decode c.code pc = .ok (.pop, 1)) (hn : pc + 1 = n) (hc : x.category = 1) (k : Go p e below Nd Q T (mkF m n Ls st)) : Go p e below Nd Q T (mkF m pc Ls (x :: st)) := by
  subst hn; exact Go.stp (fun t q => XT.pop X.here hx rfl hd rfl hc q) k
theorem g_iinc (X : Stand p l e R s m args below meth c T locs cells slots) (hx : p.tables.exec = Jvm.exec) {k : Nat} {cst : Int} {x : Int32} (hd : decode c.code pc = .ok (.iinc k cst, 3)) (hn : pc + 3 = n) (hl : Ls[k]? = some (.val (.int x))) (v : Int32) (hv : x + Int32.ofInt cst = v) (Ls' : Array Slot) (hl' : storeLocals Ls k (.int v) = some Ls') (k : Go p e below Nd Q T (mkF m n Ls' st)) : Go p e below Nd Q T (mkF m pc Ls st) := by
  subst hn hv; exact Go.stp (fun t q => XS.iinc X.here hx rfl hd hl hl' q) k
theorem g_goto (X : Stand p l e R s m args below meth c T locs cells slots) (hx : p.tables.exec = Jvm.exec) {o : Int} (hd : decode c.code pc = .ok (.goto o, 3)) (ho : 0 ≤ (pc : Int) + o) (hp : ((pc : Int) + o).toNat = n) (k : Go p e below Nd Q T (mkF m n Ls st)) : Go p e below Nd Q T (mkF m pc Ls st) :=
  Go.stp (fun t q => XS.goto X.here hx rfl rfl hd ho hp q) k
/-- a branch on an int: P is what it asks -/
theorem g_if (X : Stand p l e R s m args below meth c T locs cells slots) (hx : p.tables.exec = Jvm.exec) {cd : ClassFile.Cond} {o : Int} {x : Int32} {n' : Nat} (P : Prop) [Decidable P] (hP : ifCond.holds cd x = decide P) (hd : decode c.code pc = .ok (.ifCond cd o, 3)) (ho : 0 ≤ (pc : Int) + o) (hp : ((pc : Int) + o).toNat = n) (hn : pc + 3 = n')
    (kY : P → Go p e below Nd Q T (mkF m n Ls st)) (kN : ¬ P → Go p e below Nd Q T (mkF m n' Ls st)) : Go p e below Nd Q T (mkF m pc Ls (.int x :: st)) := by
  subst hn
  by_cases q : P
  · exact Go.stp (fun t r => XS.ifYes X.here hx rfl rfl hd rfl (by rw [hP]; exact decide_eq_true q) ho hp r) (kY q)
  · exact Go.stp (fun t r => XS.ifNo X.here hx rfl hd rfl (by rw [hP]; exact decide_eq_false q) r) (kN q)
theorem g_icmp (X : Stand p l e R s m args below meth c T locs cells slots) (hx : p.tables.exec = Jvm.exec) {cd : ClassFile.Cond} {o : Int} {x y : Int32} {n' : Nat} (P : Prop) [Decidable P] (hP : if_icmp.holds cd x y = decide P) (hd : decode c.code pc = .ok (.if_icmp cd o, 3)) (ho : 0 ≤ (pc : Int) + o) (hp : ((pc : Int) + o).toNat = n) (hn : pc + 3 = n')
    (kY : P → Go p e below Nd Q T (mkF m n Ls st)) (kN : ¬ P → Go p e below Nd Q T (mkF m n' Ls st)) : Go p e below Nd Q T (mkF m pc Ls (.int y :: .int x :: st)) := by
  subst hn
  by_cases q : P
  · exact Go.stp (fun t r => XS.icmpYes X.here hx rfl rfl hd rfl (by rw [hP]; exact decide_eq_true q) ho hp r) (kY q)
  · exact Go.stp (fun t r => XS.icmpNo X.here hx rfl hd rfl (by rw [hP]; exact decide_eq_false q) r) (kN q)
theorem own_acV (cd : ACond) (x y : Value) : XT.acmp cd x y = acV cd (decide (x = y)) := by
  cases cd <;> by_cases q : x = y <;> simp [XT.acmp, acV, q]
theorem g_acmp (X : Stand p l e R s m args below meth c T locs cells slots) (hx : p.tables.exec = Jvm.exec) {cd : ACond} {o : Int} {x y : Value} {n' : Nat} (P : Prop) [Decidable P] (hP : acV cd (decide (x = y)) = decide P) (h1 : x.isRef = true) (h2 : y.isRef = true) (hd : decode c.code pc = .ok (.if_acmp cd o, 3)) (ho : 0 ≤ (pc : Int) + o) (hp : ((pc : Int) + o).toNat = n) (hn : pc + 3 = n')
    (kY : P → Go p e below Nd Q T (mkF m n Ls st)) (kN : ¬ P → Go p e below Nd Q T (mkF m n' Ls st)) : Go p e below Nd Q T (mkF m pc Ls (y :: x :: st)) := by
  subst hn
  by_cases q : P
  · exact Go.stp (fun t r => XT.acmpYes X.here hx rfl rfl hd rfl h1 h2 (by rw [own_acV, hP]; exact decide_eq_true q) ho hp r) (kY q)
  · exact Go.stp (fun t r => XT.acmpNo X.here hx rfl hd rfl h1 h2 (by rw [own_acV, hP]; exact decide_eq_false q) r) (kN q)
theorem own_ceq (x y : Int32) : if_icmp.holds .eq x y = decide (x = y) := by by_cases q : x = y <;> simp [if_icmp.holds, q]
theorem own_cne (x y : Int32) : if_icmp.holds .ne x y = decide (¬ x = y) := by by_cases q : x = y <;> simp [if_icmp.holds, q]
theorem own_clt (x y : Int32) : if_icmp.holds .lt x y = decide (x < y) := rfl
theorem own_cge (x y : Int32) : if_icmp.holds .ge x y = decide (y ≤ x) := rfl
theorem own_cgt (x y : Int32) : if_icmp.holds .gt x y = decide (y < x) := rfl
theorem own_cle (x y : Int32) : if_icmp.holds .le x y = decide (x ≤ y) := rfl
theorem own_zeq (x : Int32) : ifCond.holds .eq x = decide (x = 0) := by rw [if0]; exact own_ceq x 0
theorem own_zne (x : Int32) : ifCond.holds .ne x = decide (¬ x = 0) := by rw [if0]; exact own_cne x 0
theorem own_zlt (x : Int32) : ifCond.holds .lt x = decide (x < 0) := rfl
theorem own_zge (x : Int32) : ifCond.holds .ge x = decide (0 ≤ x) := rfl
theorem own_zgt (x : Int32) : ifCond.holds .gt x = decide (0 < x) := rfl
theorem own_zle (x : Int32) : ifCond.holds .le x = decide (x ≤ 0) := rfl
theorem own_aeq (x y : Value) : acV .eq (decide (x = y)) = decide (x = y) := rfl
theorem own_ane (x y : Value) : acV .ne (decide (x = y)) = decide (¬ x = y) := by by_cases q : x = y <;> simp [acV, q]
theorem g_ifnullNo (X : Stand p l e R s m args below meth c T locs cells slots) (hx : p.tables.exec = Jvm.exec) {o : Int} {b : Nat} (hd : decode c.code pc = .ok (.ifnull o, 3)) (hn : pc + 3 = n) (k : Go p e below Nd Q T (mkF m n Ls st)) : Go p e below Nd Q T (mkF m pc Ls (.ref b :: st)) := by
  subst hn; exact Go.stp (fun t q => XS.ifnullNo X.here hx rfl hd rfl q) k
theorem g_ifnullYes (X : Stand p l e R s m args below meth c T locs cells slots) (hx : p.tables.exec = Jvm.exec) {o : Int} (hd : decode c.code pc = .ok (.ifnull o, 3)) (ho : 0 ≤ (pc : Int) + o) (hp : ((pc : Int) + o).toNat = n) (k : Go p e below Nd Q T (mkF m n Ls st)) : Go p e below Nd Q T (mkF m pc Ls (.null :: st)) :=
  Go.stp (fun t q => XS.ifnullYes X.here hx rfl rfl hd rfl ho hp q) k
theorem g_ifnonnullYes (X : Stand p l e R s m args below meth c T locs cells slots) (hx : p.tables.exec = Jvm.exec) {o : Int} {b : Nat} (hd : decode c.code pc = .ok (.ifnonnull o, 3)) (ho : 0 ≤ (pc : Int) + o) (hp : ((pc : Int) + o).toNat = n) (k : Go p e below Nd Q T (mkF m n Ls st)) : Go p e below Nd Q T (mkF m pc Ls (.ref b :: st)) :=
  Go.stp (fun t q => XT.ifnonnullYes X.here hx rfl rfl hd rfl ho hp q) k
/-! the ends -/
theorem g_ret (X : Stand p l e R s m args below meth c T locs cells slots) (hx : p.tables.exec = Jvm.exec) {i : Instr} {t : FieldType} {w : Value} (hret : meth.sig.returnType = some t) (hlk : meth.locks = false) (hnw : narrow t w = w)
    (hi : (i = .ireturn ∧ (t = .int ∨ t = .boolean ∨ t = .byte ∨ t = .char ∨ t = .short) ∧ ∃ z, w = .int z) ∨ (i = .lreturn ∧ t = .long ∧ ∃ z, w = .long z) ∨ (i = .dreturn ∧ t = .double ∧ ∃ z, w = .double z) ∨ (i = .freturn ∧ t = .float ∧ ∃ z, w = .float z) ∨ (i = .areturn ∧ t.isReference = true ∧ w.isRef = true))
    (hd : decode c.code pc = .ok (i, 1)) (hN : ∀ t, FrameEnd s (.returned (some w)) t locs cells slots → t.heap = T.heap → Nd (.returned (some w)) t locs) (hQ : Q (some w) T.heap locs) : Go p e below Nd Q T (mkF m pc Ls (w :: st)) := by
  obtain ⟨fs, hr, hrun, hended, hW, hsame⟩ := X.leave (v := some w) (fun q => by rw [hret] at q; cases q) hlk
  exact ⟨_, _, retOut X hx hret hnw hi hd hr, hrun, hended, _, _, rfl, hQ, hN _ ⟨⟨_, rfl⟩, hW, hsame⟩ rfl⟩
theorem g_retI (X : Stand p l e R s m args below meth c T locs cells slots) (hx : p.tables.exec = Jvm.exec) {w : Int32} (hret : meth.sig.returnType = some .int) (hlk : meth.locks = false) (hd : decode c.code pc = .ok (.ireturn, 1)) (hN : ∀ t, FrameEnd s (.returned (some (.int w))) t locs cells slots → t.heap = T.heap → Nd (.returned (some (.int w))) t locs) (hQ : Q (some (.int w)) T.heap locs) : Go p e below Nd Q T (mkF m pc Ls (.int w :: st)) :=
  g_ret X hx hret hlk rfl (Or.inl ⟨rfl, Or.inl rfl, _, rfl⟩) hd hN hQ
theorem g_retJ (X : Stand p l e R s m args below meth c T locs cells slots) (hx : p.tables.exec = Jvm.exec) {w : Int64} (hret : meth.sig.returnType = some .long) (hlk : meth.locks = false) (hd : decode c.code pc = .ok (.lreturn, 1)) (hN : ∀ t, FrameEnd s (.returned (some (.long w))) t locs cells slots → t.heap = T.heap → Nd (.returned (some (.long w))) t locs) (hQ : Q (some (.long w)) T.heap locs) : Go p e below Nd Q T (mkF m pc Ls (.long w :: st)) :=
  g_ret X hx hret hlk rfl (Or.inr (Or.inl ⟨rfl, rfl, _, rfl⟩)) hd hN hQ
theorem g_retZ (X : Stand p l e R s m args below meth c T locs cells slots) (hx : p.tables.exec = Jvm.exec) {w : Int32} (hw01 : w = 0 ∨ w = 1) (hret : meth.sig.returnType = some .boolean) (hlk : meth.locks = false) (hd : decode c.code pc = .ok (.ireturn, 1)) (hN : ∀ t, FrameEnd s (.returned (some (.int w))) t locs cells slots → t.heap = T.heap → Nd (.returned (some (.int w))) t locs) (hQ : Q (some (.int w)) T.heap locs) : Go p e below Nd Q T (mkF m pc Ls (.int w :: st)) :=
  g_ret X hx hret hlk (by rcases hw01 with rfl | rfl <;> rfl) (Or.inl ⟨rfl, Or.inr (Or.inl rfl), _, rfl⟩) hd hN hQ
theorem g_retN (X : Stand p l e R s m args below meth c T locs cells slots) (hx : p.tables.exec = Jvm.exec) {w : Int32} {t : FieldType} (ht : t = .byte ∨ t = .char ∨ t = .short) (hnw : narrow t (.int w) = .int w) (hret : meth.sig.returnType = some t) (hlk : meth.locks = false) (hd : decode c.code pc = .ok (.ireturn, 1)) (hN : ∀ t, FrameEnd s (.returned (some (.int w))) t locs cells slots → t.heap = T.heap → Nd (.returned (some (.int w))) t locs) (hQ : Q (some (.int w)) T.heap locs) : Go p e below Nd Q T (mkF m pc Ls (.int w :: st)) :=
  g_ret X hx hret hlk hnw (Or.inl ⟨rfl, by rcases ht with rfl | rfl | rfl <;> simp, _, rfl⟩) hd hN hQ
theorem g_retA (X : Stand p l e R s m args below meth c T locs cells slots) (hx : p.tables.exec = Jvm.exec) {w : Value} {t : FieldType} (hret : meth.sig.returnType = some t) (ht : t.isReference = true) (hw : w.isRef = true) (hlk : meth.locks = false) (hd : decode c.code pc = .ok (.areturn, 1)) (hN : ∀ t, FrameEnd s (.returned (some w)) t locs cells slots → t.heap = T.heap → Nd (.returned (some w)) t locs) (hQ : Q (some w) T.heap locs) : Go p e below Nd Q T (mkF m pc Ls (w :: st)) :=
  g_ret X hx hret hlk (by rcases ref_cases hw with rfl | ⟨a, rfl⟩ <;> cases t <;> first | rfl | cases ht) (Or.inr (Or.inr (Or.inr (Or.inr ⟨rfl, ht, hw⟩)))) hd hN hQ
theorem g_retV (X : Stand p l e R s m args below meth c T locs cells slots) (hx : p.tables.exec = Jvm.exec) (hret : meth.sig.returnType = none) (hlk : meth.locks = false) (hd : decode c.code pc = .ok (.return_, 1)) (hN : ∀ t, FrameEnd s (.returned none) t locs cells slots → t.heap = T.heap → Nd (.returned none) t locs) (hQ : Q none T.heap locs) : Go p e below Nd Q T (mkF m pc Ls []) := by
  obtain ⟨fs, hr, hrun, hended, hW, hsame⟩ := X.leave (v := none) (fun _ => rfl) hlk
  exact ⟨_, _, X.returnOut hx hret hd hr, hrun, hended, _, _, rfl, hQ, hN _ ⟨⟨_, rfl⟩, hW, hsame⟩ rfl⟩
/-! tables and heap -/
variable {own : String} {index : Nat}
theorem g_ldcI (X : Stand p l e R s m args below meth c T locs cells slots) (hx : p.tables.exec = Jvm.exec) (hZ : Z.Warmed39 s.vm) {v : Int32} (hown : s.vm.findClass own = some m.cls) (w : (Cond.constant own index v).before a0 Z = true) (hd : decode c.code pc = .ok (.ldc index, 2)) (hn : pc + 2 = n) (k : Go p e below Nd Q T (mkF m n Ls (.int v :: st))) : Go p e below Nd Q T (mkF m pc Ls st) := by
  subst hn; exact Go.stp (fun t q => X.ldcI hx hown (mvT hZ w) rfl hd q) k
theorem g_ldc2 (X : Stand p l e R s m args below meth c T locs cells slots) (hx : p.tables.exec = Jvm.exec) (hZ : Z.Warmed39 s.vm) {v : Int64} (hown : s.vm.findClass own = some m.cls) (w : (Cond.constantLong own index v).before a0 Z = true) (hd : decode c.code pc = .ok (.ldc2_w index, 3)) (hn : pc + 3 = n) (k : Go p e below Nd Q T (mkF m n Ls (.long v :: st))) : Go p e below Nd Q T (mkF m pc Ls st) := by
  subst hn; exact Go.stp (fun t q => X.ldc2J hx hown (mvT hZ w) rfl hd q) k
theorem g_getF (X : Stand p l e R s m args below meth c T locs cells slots) (hx : p.tables.exec = Jvm.exec) (hZ : Z.Warmed39 s.vm) {O f d : String} (hown : s.vm.findClass own = some m.cls) (w : (Cond.fieldLink own index O f d).before a0 Z = true) (eT : T.heap = h) {a : Nat} {v : Value} (F : Fld Z h a O f d v) (hd : decode c.code pc = .ok (.getfield index, 3)) (hn : pc + 3 = n)
    (k : ∀ T', Stand p l e R s m args below meth c T' locs cells slots → T'.heap = h → Go p e below Nd Q T' (mkF m n Ls (v :: st))) : Go p e below Nd Q T (mkF m pc Ls (.ref a :: st)) := by
  subst hn
  obtain ⟨T1, X1, e1, st1⟩ := getF X hx hZ hown (host := "") (Or.inl w) Via.refl eT F (g := mkF m pc Ls (.ref a :: st)) rfl rfl hd
  exact Go.stp st1 (k T1 X1 e1)
theorem g_getS (X : Stand p l e R s m args below meth c T locs cells slots) (hx : p.tables.exec = Jvm.exec) (hZ : Z.Warmed39 s.vm) {O f d : String} (hown : s.vm.findClass own = some m.cls) (w : (Cond.fieldLink own index O f d).before a0 Z = true) (eT : T.heap = h) {v : Value} (F : Sta Z h O f d v) (hd : decode c.code pc = .ok (.getstatic index, 3)) (hn : pc + 3 = n)
    (k : ∀ T', Stand p l e R s m args below meth c T' locs cells slots → T'.heap = h → Go p e below Nd Q T' (mkF m n Ls (v :: st))) : Go p e below Nd Q T (mkF m pc Ls st) := by
  subst hn
  obtain ⟨T1, X1, e1, st1⟩ := getS X hx hZ (host := "") hown w Via.refl eT F (g := mkF m pc Ls st) rfl hd
  exact Go.stp st1 (k T1 X1 e1)
theorem g_putF (X : Stand p l e R s m args below meth c T locs cells slots) (hx : p.tables.exec = Jvm.exec) (hZ : Z.Warmed39 s.vm) {O f d K : String} {kk : Nat} {ty : FieldType} (hown : s.vm.findClass own = some m.cls) (w : (Cond.fieldLink own index O f d).before a0 Z = true) (eT : T.heap = h) {a : Nat} {v old : Value} (F : Fld Z h a O f d old) (E : Exa Z h a K)
    (L : (Cond.lays K O f d).before a0 Z = true ∨ ((Cond.laysFinal K O f d).before a0 Z = true ∧ own = O ∧ meth.name = "<init>")) (wi : (Cond.instantiable K kk).before a0 Z = true) (hty : parseFieldDescriptor d = some ty) (hnw : narrow ty v = v) (hf : fits ty v = true) (hd : decode c.code pc = .ok (.putfield index, 3)) (hn : pc + 3 = n)
    (k : ∀ T' h', Stand p l e R s m args below meth c T' (locs ++ [⟨a, Jvm.RoadKit.slotOf Z O f d⟩]) cells slots → T'.heap = h' → Wr h h' a (Jvm.RoadKit.slotOf Z O f d) v → Go p e below Nd Q T' (mkF m n Ls st)) : Go p e below Nd Q T (mkF m pc Ls (v :: .ref a :: st)) := by
  subst hn
  obtain ⟨T1, h1, X1, e1, W1, st1⟩ := putF X hx hZ hown (host := "") (Or.inl w) Via.refl eT F E L wi hty hnw hf (g := mkF m pc Ls (v :: .ref a :: st)) rfl rfl hd
  exact Go.stp st1 (k T1 h1 X1 e1 W1)
theorem g_new (X : Stand p l e R s m args below meth c T locs cells slots) (hx : p.tables.exec = Jvm.exec) (hZ : Z.Warmed39 s.vm) {K : String} {nn : Nat} (hown : s.vm.findClass own = some m.cls) (w : (Cond.classLink own index K).before a0 Z = true) (wi : (Cond.instantiable K nn).before a0 Z = true) (wz : (Cond.initialized K).before a0 Z = true) (eT : T.heap = h) (hd : decode c.code pc = .ok (.new index, 3)) (hn : pc + 3 = n) (hc : cells + 1 ≤ R.cells) (hl : slots + nn ≤ R.slots)
    (k : ∀ T' h' a, Stand p l e R s m args below meth c T' locs (cells + 1) (slots + nn) → T'.heap = h' → a = h.size → Ext h h' → Exa Z h' a K → (∀ {O f d : String} {ty : FieldType}, Laid Z a0 K O f d → parseFieldDescriptor d = some ty → Fld Z h' a O f d (defaultValue ty)) → Go p e below Nd Q T' (mkF m n Ls (.ref a :: st))) : Go p e below Nd Q T (mkF m pc Ls st) := by
  subst hn
  obtain ⟨T1, h1, X1, e1, E1, A1, D1, -, st1⟩ := newO X hx hZ hown w wi wz eT (g := mkF m pc Ls st) rfl hd hc hl
  exact Go.stp st1 (k T1 h1 h.size X1 e1 rfl E1 A1 D1)
theorem g_initO (X : Stand p l e R s m args below meth c T locs cells slots) (hx : p.tables.exec = Jvm.exec) (hZ : Z.Warmed39 s.vm) (hown : s.vm.findClass own = some m.cls) (w1 : (Cond.methodLink own index Lib.objectInit).before a0 Z = true) (w2 : (Cond.instanceMethod Lib.objectInit).before a0 Z = true) (w3 : (Cond.code Lib.objectInit object_method_1_code 1 none).before a0 Z = true) (eT : T.heap = h) (hsize : Ls.size = c.maxLocals) {a : Nat} (hd : decode c.code pc = .ok (.invokespecial index, 3)) (hn : pc + 3 = n)
    (hf : 1 ≤ R.frames) {W : Nat} (hW : (st.map fun v => v.category).sum ≤ W) (hl : W + 12 ≤ R.locals)
    (k : ∀ T', Stand p l e R s m args below meth c T' locs cells slots → T'.heap = h → Go p e below Nd Q T' (mkF m n Ls st)) : Go p e below Nd Q T (mkF m pc Ls (.ref a :: st)) := by
  subst hn
  obtain ⟨T1, X1, e1, st1⟩ := initO X hx hZ hown w1 w2 w3 eT (g := mkF m pc Ls (.ref a :: st)) rfl hsize rfl hd hf (W := W) (by show 2 * 0 + _ ≤ _; omega) hl
  exact Go.stp st1 (k T1 X1 e1)
theorem g_cast (X : Stand p l e R s m args below meth c T locs cells slots) (hx : p.tables.exec = Jvm.exec) (hZ : Z.Warmed39 s.vm) {K : String} (hown : s.vm.findClass own = some m.cls) (w : (Cond.classLink own index K).before a0 Z = true) (eT : T.heap = h) {a : Nat} (F : Ins Z h a K true) (hd : decode c.code pc = .ok (.checkcast index, 3)) (hn : pc + 3 = n)
    (k : ∀ T', Stand p l e R s m args below meth c T' locs cells slots → T'.heap = h → Go p e below Nd Q T' (mkF m n Ls (.ref a :: st))) : Go p e below Nd Q T (mkF m pc Ls (.ref a :: st)) := by
  subst hn
  obtain ⟨T1, X1, e1, st1⟩ := castY X hx hZ hown w eT F (g := mkF m pc Ls (.ref a :: st)) rfl rfl hd
  exact Go.stp st1 (k T1 X1 e1)
theorem g_inst (X : Stand p l e R s m args below meth c T locs cells slots) (hx : p.tables.exec = Jvm.exec) (hZ : Z.Warmed39 s.vm) {K : String} (hown : s.vm.findClass own = some m.cls) (w : (Cond.classLink own index K).before a0 Z = true) (eT : T.heap = h) {a : Nat} (F : Ins Z h a K true) (hd : decode c.code pc = .ok (.instanceof index, 3)) (hn : pc + 3 = n)
    (k : ∀ T', Stand p l e R s m args below meth c T' locs cells slots → T'.heap = h → Go p e below Nd Q T' (mkF m n Ls (.int 1 :: st))) : Go p e below Nd Q T (mkF m pc Ls (.ref a :: st)) := by
  subst hn
  obtain ⟨T1, X1, e1, st1⟩ := instY X hx hZ hown w eT F (g := mkF m pc Ls (.ref a :: st)) rfl rfl hd
  exact Go.stp st1 (k T1 X1 e1)
/-! calls by contract -/
variable {y z : MethodName} {bytes : ByteArray} {maxL : Nat} {ret : Option FieldType} {rm : Room} {Qc : Option Value → Heap → List Loc → Prop} {ps : List FieldType} {rt : Option FieldType}
/-- a callee's contract over the heap h, with these arguments -/
abbrev OMet (l : Launch) (Z : State) (y : MethodName) (bytes : ByteArray) (maxL : Nat) (ret : Option FieldType) (ws : List Cond) (rm : Room) (as' : Array Value) (h : Heap) (Qc : Option Value → Heap → List Loc → Prop) : Prop :=
  MetFree l y (head1 (Cond.code y bytes maxL ret :: ws) rm) (fun a U => a = as' ∧ Z.Warmed39 U.vm ∧ U.heap = h) (fun _ _ _ _ _ => True) (fun _ U o U' => ∃ v L, o = .returned v ∧ Qc v U'.heap L ∧ FrameEnd U o U' L rm.cells rm.slots)
theorem own_body {ws : List Cond} {as' : Array Value} (hpn : plainFor y = true) (hef : ∀ m, entryFrame m as' maxL = mkF m 0 Ls [])
    (H : ∀ (p : Program) (e : Env) (s : State) (m : MethodId) (below : List Frame) (meth : Method) (c : Code) (s₁ : State), Stand p l e rm s m as' below meth c s₁ [] 0 0 → p.tables.exec = Jvm.exec → c.code = bytes → c.maxLocals = maxL → s.vm.findClass y.cls = some m.cls → meth.name = y.name → meth.sig.returnType = ret → meth.locks = false → Z.Warmed39 s.vm → s₁.heap = h → Go p e below (Fe s rm.cells rm.slots) Qc s₁ (mkF m 0 Ls [])) :
    OMet l Z y bytes maxL ret ws rm as' h Qc := by
  refine MetFree.of_bodySF hpn hisR ?_
  intro p e s m args below meth c s₁ Bd hml0 hP hK
  obtain ⟨rfl, hZ, hh⟩ := hP
  obtain ⟨s₂, o, h1, h2, h3, h4⟩ := H p e s m below meth c s₁ (Stand.of_body Bd) Bd.exec Bd.bytes hml0 (findClass_of_methodNamed Bd.named) (name_of_methodNamed Bd.named Bd.method).1 Bd.returns (BodyLoose.notSynchronized Bd) hZ (by rw [← hh, Bd.state]; rfl)
  exact ⟨s₂, o, castTop (hef m) h1, h2, h3, h4⟩
theorem g_callS (X : Stand p l e R s m args below meth c T locs cells slots) (hx : p.tables.exec = Jvm.exec) (hZ : Z.Warmed39 s.vm) (hown : s.vm.findClass own = some m.cls) (eT : T.heap = h) (w1 : (Cond.methodLink own index y).before a0 Z = true) (w2 : (Cond.static y).before a0 Z = true) (w3 : (Cond.initialized y.cls).before a0 Z = true) (w4 : (Cond.code y bytes maxL ret).before a0 Z = true)
    (hy : y.cls ≠ "java/lang/invoke/MethodHandle" ∧ y.cls ≠ "java/lang/invoke/VarHandle") (as' : List Value) (hM : OMet l Z y bytes maxL ret [] rm as'.toArray h Qc) (hpd : parseMethodDescriptor y.desc = some ⟨ps, rt⟩) (hlen : as'.length = ps.length) (hd : decode c.code pc = .ok (.invokestatic index, 3)) (hn : pc + 3 = n) (hsize : Ls.size = c.maxLocals)
    (hf : rm.frames + 1 ≤ R.frames) (W : Nat) (hW : (st.map fun v => v.category).sum ≤ W) (hl : W + (maxL + 11) + rm.locals ≤ R.locals) (hc : cells + rm.cells ≤ R.cells) (hs : slots + rm.slots ≤ R.slots)
    (k : ∀ T' h' v L, Stand p l e R s m args below meth c T' (locs ++ L) (cells + rm.cells) (slots + rm.slots) → T'.heap = h' → Qc v h' L → Go p e below Nd Q T' (mkF m n Ls (v.toList ++ st))) : Go p e below Nd Q T (mkF m pc Ls (as'.reverse ++ st)) := by
  subst hn
  obtain ⟨v, _, ⟨T1, L1, k1, n1⟩, -, X1, ⟨L, hQ1, l1, y1, z1⟩, st1⟩ := Jvm.LawKit.callS X hx (y := y) hown (mvT hZ w1) (mvT hZ w2) (mvT hZ w3) (mvT hZ w4) hy (backOf (W := W) hM hZ w4 w3 hf hl) (g := mkF m pc Ls (as'.reverse ++ st)) rfl hsize (argsL := as') (rest := st) (lenOf hpd hlen) rfl (by show 2 * 0 + _ ≤ _; omega) hd (fun _ _ => ⟨rfl, eT, hc, hs⟩)
  dsimp only [Pt.U, Pt.locs, Pt.cells, Pt.slots] at X1 l1 y1 z1 st1 hQ1
  subst l1 y1 z1
  exact Go.stp st1 (k T1 _ v L X1 rfl hQ1)
/-- a callee that returns w and changes nothing -/
def Pu (w : Value) (h0 : Heap) (v : Option Value) (h : Heap) (L : List Loc) : Prop := v = some w ∧ L = [] ∧ h = h0
theorem g_callSP (X : Stand p l e R s m args below meth c T locs cells slots) (hx : p.tables.exec = Jvm.exec) (hZ : Z.Warmed39 s.vm) (hown : s.vm.findClass own = some m.cls) (eT : T.heap = h) (w1 : (Cond.methodLink own index y).before a0 Z = true) (w2 : (Cond.static y).before a0 Z = true) (w3 : (Cond.initialized y.cls).before a0 Z = true) (w4 : (Cond.code y bytes maxL ret).before a0 Z = true)
    (hy : y.cls ≠ "java/lang/invoke/MethodHandle" ∧ y.cls ≠ "java/lang/invoke/VarHandle") (as' : List Value) {w : Value} (hM : OMet l Z y bytes maxL ret [] rm as'.toArray h (Pu w h)) (hpd : parseMethodDescriptor y.desc = some ⟨ps, rt⟩) (hlen : as'.length = ps.length) (hd : decode c.code pc = .ok (.invokestatic index, 3)) (hn : pc + 3 = n) (hsize : Ls.size = c.maxLocals)
    (hf : rm.frames + 1 ≤ R.frames) (W : Nat) (hW : (st.map fun v => v.category).sum ≤ W) (hl : W + (maxL + 11) + rm.locals ≤ R.locals) (hc : cells + rm.cells ≤ R.cells) (hs : slots + rm.slots ≤ R.slots)
    (k : ∀ T', Stand p l e R s m args below meth c T' locs (cells + rm.cells) (slots + rm.slots) → T'.heap = h → Go p e below Nd Q T' (mkF m n Ls (w :: st))) : Go p e below Nd Q T (mkF m pc Ls (as'.reverse ++ st)) :=
  g_callS X hx hZ hown eT w1 w2 w3 w4 hy as' hM hpd hlen hd hn hsize hf W hW hl hc hs fun T' h' v L X' e' q => by
    obtain ⟨rfl, rfl, rfl⟩ := q
    rw [List.append_nil] at X'
    exact k T' X' e'
/-- a callee that returns nothing and changes nothing -/
def Pv (h0 : Heap) (v : Option Value) (h : Heap) (L : List Loc) : Prop := v = none ∧ L = [] ∧ h = h0
theorem g_callSV (X : Stand p l e R s m args below meth c T locs cells slots) (hx : p.tables.exec = Jvm.exec) (hZ : Z.Warmed39 s.vm) (hown : s.vm.findClass own = some m.cls) (eT : T.heap = h) (w1 : (Cond.methodLink own index y).before a0 Z = true) (w2 : (Cond.static y).before a0 Z = true) (w3 : (Cond.initialized y.cls).before a0 Z = true) (w4 : (Cond.code y bytes maxL ret).before a0 Z = true)
    (hy : y.cls ≠ "java/lang/invoke/MethodHandle" ∧ y.cls ≠ "java/lang/invoke/VarHandle") (as' : List Value) (hM : OMet l Z y bytes maxL ret [] rm as'.toArray h (Pv h)) (hpd : parseMethodDescriptor y.desc = some ⟨ps, rt⟩) (hlen : as'.length = ps.length) (hd : decode c.code pc = .ok (.invokestatic index, 3)) (hn : pc + 3 = n) (hsize : Ls.size = c.maxLocals)
    (hf : rm.frames + 1 ≤ R.frames) (W : Nat) (hW : (st.map fun v => v.category).sum ≤ W) (hl : W + (maxL + 11) + rm.locals ≤ R.locals) (hc : cells + rm.cells ≤ R.cells) (hs : slots + rm.slots ≤ R.slots)
    (k : ∀ T', Stand p l e R s m args below meth c T' locs (cells + rm.cells) (slots + rm.slots) → T'.heap = h → Go p e below Nd Q T' (mkF m n Ls st)) : Go p e below Nd Q T (mkF m pc Ls (as'.reverse ++ st)) :=
  g_callS X hx hZ hown eT w1 w2 w3 w4 hy as' hM hpd hlen hd hn hsize hf W hW hl hc hs fun T' h' v L X' e' q => by
    obtain ⟨rfl, rfl, rfl⟩ := q
    rw [List.append_nil] at X'
    exact k T' X' e'
theorem g_callI (X : Stand p l e R s m args below meth c T locs cells slots) (hx : p.tables.exec = Jvm.exec) (hZ : Z.Warmed39 s.vm) (hown : s.vm.findClass own = some m.cls) (eT : T.heap = h) (hy1 : y.name = "<init>") (w1 : (Cond.methodLink own index y).before a0 Z = true) (w2 : (Cond.instanceMethod y).before a0 Z = true) (w3 : (Cond.initialized y.cls).before a0 Z = true) (w4 : (Cond.code y bytes maxL none).before a0 Z = true)
    (hy : y.cls ≠ "java/lang/invoke/MethodHandle" ∧ y.cls ≠ "java/lang/invoke/VarHandle") (a : Nat) (as' : List Value) (hM : OMet l Z y bytes maxL none [] rm (.ref a :: as').toArray h Qc) (hpd : parseMethodDescriptor y.desc = some ⟨ps, rt⟩) (hlen : as'.length = ps.length) (hd : decode c.code pc = .ok (.invokespecial index, 3)) (hn : pc + 3 = n) (hsize : Ls.size = c.maxLocals)
    (hf : rm.frames + 1 ≤ R.frames) (W : Nat) (hW : (st.map fun v => v.category).sum ≤ W) (hl : W + (maxL + 11) + rm.locals ≤ R.locals) (hc : cells + rm.cells ≤ R.cells) (hs : slots + rm.slots ≤ R.slots)
    (k : ∀ T' h' v L, Stand p l e R s m args below meth c T' (locs ++ L) (cells + rm.cells) (slots + rm.slots) → T'.heap = h' → Qc v h' L → Go p e below Nd Q T' (mkF m n Ls (v.toList ++ st))) : Go p e below Nd Q T (mkF m pc Ls (as'.reverse ++ .ref a :: st)) := by
  subst hn
  obtain ⟨v, _, ⟨T1, L1, k1, n1⟩, -, X1, ⟨L, hQ1, l1, y1, z1⟩, st1⟩ := X.specialBack hx (y := y) hy1 hown (mvT hZ w1) (mvT hZ w2) (mvT hZ w4) hy (backOf (W := W) hM hZ w4 w3 hf hl) (g := mkF m pc Ls (as'.reverse ++ .ref a :: st)) rfl hsize (Steps.refl _) (a := a) (argsL := as') (rest := st) (lenOf hpd hlen) rfl (by show 2 * 0 + _ ≤ _; omega) hd (fun _ _ => ⟨rfl, eT, hc, hs⟩)
  dsimp only [Pt.U, Pt.locs, Pt.cells, Pt.slots] at X1 l1 y1 z1 st1 hQ1
  subst l1 y1 z1
  exact Go.tr st1 (k T1 _ v L X1 rfl hQ1)
theorem g_callV (X : Stand p l e R s m args below meth c T locs cells slots) (hx : p.tables.exec = Jvm.exec) (hZ : Z.Warmed39 s.vm) (hown : s.vm.findClass own = some m.cls) (eT : T.heap = h) {K : String} (w1 : (Cond.methodLink own index y).before a0 Z = true) (w2 : (Cond.declares y).before a0 Z = true) (hnf : NotFace s y) (w5 : (Cond.selects K y z).before a0 Z = true) (w6 : (Cond.instanceMethod z).before a0 Z = true) (w3 : (Cond.initialized z.cls).before a0 Z = true) (w4 : (Cond.code z bytes maxL ret).before a0 Z = true)
    (hy : y.cls ≠ "java/lang/invoke/MethodHandle" ∧ y.cls ≠ "java/lang/invoke/VarHandle") (a : Nat) (E : Exa Z h a K) (as' : List Value) (hM : OMet l Z z bytes maxL ret [] rm (.ref a :: as').toArray h Qc) (hpd : parseMethodDescriptor y.desc = some ⟨ps, rt⟩) (hlen : as'.length = ps.length) (hd : decode c.code pc = .ok (.invokevirtual index, 3)) (hn : pc + 3 = n) (hsize : Ls.size = c.maxLocals)
    (hf : rm.frames + 1 ≤ R.frames) (W : Nat) (hW : (st.map fun v => v.category).sum ≤ W) (hl : W + (maxL + 11) + rm.locals ≤ R.locals) (hc : cells + rm.cells ≤ R.cells) (hs : slots + rm.slots ≤ R.slots)
    (k : ∀ T' h' v L, Stand p l e R s m args below meth c T' (locs ++ L) (cells + rm.cells) (slots + rm.slots) → T'.heap = h' → Qc v h' L → Go p e below Nd Q T' (mkF m n Ls (v.toList ++ st))) : Go p e below Nd Q T (mkF m pc Ls (as'.reverse ++ .ref a :: st)) := by
  subst hn
  obtain ⟨cq, kq, qa, qb, qc⟩ := isOf hZ eT E
  obtain ⟨v, _, ⟨T1, L1, k1, n1⟩, -, X1, ⟨L, hQ1, l1, y1, z1⟩, st1⟩ := X.virtualBack hx (y := y) (z := z) hown (mvT hZ w1) (mvT hZ w2) hnf (mvT hZ w5) (mvT hZ w6) hy (backOf (W := W) hM hZ w4 w3 hf hl) qa qc (g := mkF m pc Ls (as'.reverse ++ .ref a :: st)) rfl hsize (Steps.refl _) (argsL := as') (rest := st) (lenOf hpd hlen) rfl (by show 2 * 0 + _ ≤ _; omega) hd (fun _ _ => ⟨rfl, eT, hc, hs⟩)
  dsimp only [Pt.U, Pt.locs, Pt.cells, Pt.slots] at X1 l1 y1 z1 st1 hQ1
  subst l1 y1 z1
  exact Go.tr st1 (k T1 _ v L X1 rfl hQ1)
theorem g_callVP (X : Stand p l e R s m args below meth c T locs cells slots) (hx : p.tables.exec = Jvm.exec) (hZ : Z.Warmed39 s.vm) (hown : s.vm.findClass own = some m.cls) (eT : T.heap = h) {K : String} (w1 : (Cond.methodLink own index y).before a0 Z = true) (w2 : (Cond.declares y).before a0 Z = true) (hnf : NotFace s y) (w5 : (Cond.selects K y z).before a0 Z = true) (w6 : (Cond.instanceMethod z).before a0 Z = true) (w3 : (Cond.initialized z.cls).before a0 Z = true) (w4 : (Cond.code z bytes maxL ret).before a0 Z = true)
    (hy : y.cls ≠ "java/lang/invoke/MethodHandle" ∧ y.cls ≠ "java/lang/invoke/VarHandle") (a : Nat) (E : Exa Z h a K) (as' : List Value) {w : Value} (hM : OMet l Z z bytes maxL ret [] rm (.ref a :: as').toArray h (Pu w h)) (hpd : parseMethodDescriptor y.desc = some ⟨ps, rt⟩) (hlen : as'.length = ps.length) (hd : decode c.code pc = .ok (.invokevirtual index, 3)) (hn : pc + 3 = n) (hsize : Ls.size = c.maxLocals)
    (hf : rm.frames + 1 ≤ R.frames) (W : Nat) (hW : (st.map fun v => v.category).sum ≤ W) (hl : W + (maxL + 11) + rm.locals ≤ R.locals) (hc : cells + rm.cells ≤ R.cells) (hs : slots + rm.slots ≤ R.slots)
    (k : ∀ T', Stand p l e R s m args below meth c T' locs (cells + rm.cells) (slots + rm.slots) → T'.heap = h → Go p e below Nd Q T' (mkF m n Ls (w :: st))) : Go p e below Nd Q T (mkF m pc Ls (as'.reverse ++ .ref a :: st)) :=
  g_callV X hx hZ hown eT w1 w2 hnf w5 w6 w3 w4 hy a E as' hM hpd hlen hd hn hsize hf W hW hl hc hs fun T' h' v L X' e' q => by
    obtain ⟨rfl, rfl, rfl⟩ := q
    rw [List.append_nil] at X'
    exact k T' X' e'
theorem own_pad {C' S' : Nat} (X : Stand p l e R s m args below meth c T locs cells slots) (h1 : cells ≤ C') (h2 : slots ≤ S') : Stand p l e R s m args below meth c T locs C' S' :=
  ⟨X.admits, X.cas, X.clock, X.frames, X.room, X.hears, X.method, X.code, X.here, X.tail, X.warmed, X.limits, X.bytes, X.same.mono h1 h2⟩
/-- a private method, called by invokevirtual; wu: any method of the same class that its objects select (so the class is no interface) -/
theorem g_callP (X : Stand p l e R s m args below meth c T locs cells slots) (hx : p.tables.exec = Jvm.exec) (hZ : Z.Warmed39 s.vm) (hown : s.vm.findClass own = some m.cls) (eT : T.heap = h) {u : MethodName} (hu : u.cls = y.cls) (w1 : (Cond.methodLink own index y).before a0 Z = true) (w2 : (Cond.instanceMethod y).before a0 Z = true) (wp : (Cond.privateMethod y).before a0 Z = true) (wu : (Cond.selects u.cls u u).before a0 Z = true) (w3 : (Cond.initialized y.cls).before a0 Z = true) (w4 : (Cond.code y bytes maxL ret).before a0 Z = true)
    (hy : y.cls ≠ "java/lang/invoke/MethodHandle" ∧ y.cls ≠ "java/lang/invoke/VarHandle") (a : Nat) {K : String} (E : Exa Z h a K) (as' : List Value) (hM : OMet l Z y bytes maxL ret [] rm (.ref a :: as').toArray h Qc) (hpd : parseMethodDescriptor y.desc = some ⟨ps, rt⟩) (hlen : as'.length = ps.length) (hd : decode c.code pc = .ok (.invokevirtual index, 3)) (hn : pc + 3 = n) (hsize : Ls.size = c.maxLocals)
    (hf : rm.frames + 1 ≤ R.frames) (W : Nat) (hW : (st.map fun v => v.category).sum ≤ W) (hl : W + (maxL + 11) + rm.locals ≤ R.locals) (hc : cells + rm.cells ≤ R.cells) (hs : slots + rm.slots ≤ R.slots)
    (k : ∀ T' h' v L, Stand p l e R s m args below meth c T' (locs ++ L) (cells + rm.cells) (slots + rm.slots) → T'.heap = h' → Qc v h' L → Go p e below Nd Q T' (mkF m n Ls (v.toList ++ st))) : Go p e below Nd Q T (mkF m pc Ls (as'.reverse ++ .ref a :: st)) := by
  subst hn
  have hpr : s.PrivateAt y := Cond.privateMethod_at (mvP hZ wp (args := args))
  have hin : (Cond.instanceMethod y).before args s = true := mvT hZ w2
  have hus : (Cond.selects u.cls u u).before args s = true := mvT hZ wu
  obtain ⟨cu, ru, mu, u1, -, u3, -, ku, u5, u6⟩ := Cond.selects_spec hus
  have hcu : s.vm.findClass y.cls = some mu.cls := by rw [← hu]; exact findClass_of_methodNamed u3
  have hsel : (Cond.selects y.cls y y).before args s = true := selects_self_of_private hcu u5 u6 hpr hin hy
  obtain ⟨cell, hcell, hob⟩ := E.cell
  obtain ⟨v, _, ⟨T1, L1, k1, n1⟩, -, X1, ⟨L, hQ1, l1, y1, z1⟩, st1⟩ := X.privateBack hx (y := y) hown (mvT hZ w1) hin hsel hpr (mvT hZ w4) hy (backOf (W := W) hM hZ w4 w3 hf hl) (g := mkF m pc Ls (as'.reverse ++ .ref a :: st)) rfl hsize (Steps.refl _) (a := a) (cell := cell) (by rw [eT]; exact hcell) hob (argsL := as') (rest := st) (lenOf hpd hlen) rfl (by show 2 * 0 + _ ≤ _; omega) hd (fun _ _ => ⟨rfl, eT, hc, hs⟩)
  dsimp only [Pt.U, Pt.locs, Pt.cells, Pt.slots] at X1 l1 y1 z1 st1 hQ1
  subst l1 y1 z1
  exact Go.tr st1 (k T1 _ v L X1 rfl hQ1)
/-! arrays: n places, place j holds f j -/
def Av (Z : State) (h : Heap) (a : Nat) (ty : FieldType) (n : Nat) (f : Nat → Value) : Prop := ∃ cl : Cell, Arr Z h a cl ty ∧ cl.slots.size = n ∧ n < 2 ^ 31 ∧ ∀ j, j < n → cl.slots[j]? = some (f j)
variable {h' : Heap} {a b : Nat} {ty : FieldType} {sz : Nat} {f : Nat → Value} {sl : Nat} {v : Value} {ws' : List Nat}
theorem own_elt {K : String} (F : Exa Z h a K) : a < h.size := F.lt
theorem Av.lt (F : Av Z h a ty sz f) : a < h.size := by obtain ⟨c, A, -⟩ := F; exact A.lt
theorem Av.ext (F : Av Z h a ty sz f) (E : Ext h h') : Av Z h' a ty sz f := by obtain ⟨c, A, r⟩ := F; exact ⟨c, A.ext E, r⟩
theorem Av.other (F : Av Z h b ty sz f) (W : Wr h h' a sl v) (q : b ≠ a) : Av Z h' b ty sz f := by obtain ⟨c, A, r⟩ := F; exact ⟨c, A.other W q, r⟩
theorem Av.keep (F : Av Z h a ty sz f) (K : Keep h h' ws') (q : a ∉ ws') : Av Z h' a ty sz f := by obtain ⟨c, A, r⟩ := F; exact ⟨c, ⟨K.2.1 a c A.1 q, A.2⟩, r⟩
theorem Av.bnd (F : Av Z h a ty sz f) : sz < 2 ^ 31 := by obtain ⟨_, _, _, b, _⟩ := F; exact b
theorem Av.congr {f' : Nat → Value} (F : Av Z h a ty sz f) (q : ∀ j, j < sz → f j = f' j) : Av Z h a ty sz f' := by
  obtain ⟨c, A, S, b, H⟩ := F; exact ⟨c, A, S, b, fun j hj => by rw [H j hj, q j hj]⟩
theorem own_in {c : Cell} {k n : Nat} {j : Int32} (hj : j = Int32.ofNat k) (hs : c.slots.size = n) (hk : k < n) (hn : n < 2 ^ 31) : ¬ (j < 0 ∨ c.slots.size ≤ j.toNatClampNeg) ∧ j.toNatClampNeg = k := by
  subst hj hs
  refine ⟨idx_in hk hn, ?_⟩
  have := len_toInt (n := k) (Nat.lt_trans hk hn)
  show (Nat.toInt32 k).toNatClampNeg = k
  simp only [Int32.toNatClampNeg, this]; rfl
theorem own_inc (i : Nat) : Int32.ofNat i + Int32.ofInt 1 = Int32.ofNat (i + 1) := (Int32.ofNat_add i 1).symm
theorem own_le {i n : Nat} (hi : i < 2 ^ 31) (hn : n < 2 ^ 31) : Int32.ofNat n ≤ Int32.ofNat i ↔ n ≤ i := by
  rw [Int32.le_iff_toInt_le, Int32.toInt_ofNat_small hi, Int32.toInt_ofNat_small hn]; omega
theorem own_idx {i : Int32} {j n : Nat} (hj : i = Int32.ofNat j) (h1 : j < n) (h2 : n < 2 ^ 31) : ¬ i < 0 ∧ i < Int32.ofNat n := by
  subst hj
  rw [Int32.lt_iff_toInt_lt, Int32.lt_iff_toInt_lt, Int32.toInt_ofNat_small (by omega), Int32.toInt_ofNat_small h2]
  constructor
  · show ¬ (j : Int) < 0; omega
  · omega
theorem Av.set (F : Av Z h a ty sz f) {k : Nat} (W : Wr h h' a k v) (hk : k < sz) : Av Z h' a ty sz (fun i => if i = k then v else f i) := by
  obtain ⟨c, A, S, b, H⟩ := F
  refine ⟨_, A.same W, by rw [sz_set]; exact S, b, fun j hj => ?_⟩
  simp only [Cell.setSlot]
  by_cases q : j = k
  · subst q; simp [S, hj]
  · rw [Array.getElem?_setIfInBounds_ne (Ne.symm q), H j hj, if_neg q]
theorem Av.new {cA : ClassId} {N : Int32} (A : Arr Z h a (newA cA ty N) ty) (hN : N = Int32.ofNat sz) (hb : sz < 2 ^ 31) : Av Z h a ty sz (fun _ => defaultValue ty) := by
  have e : N.toNatClampNeg = sz := by
    subst hN; have := len_toInt (n := sz) hb; show (Nat.toInt32 sz).toNatClampNeg = sz; simp only [Int32.toNatClampNeg, this]; rfl
  exact ⟨_, A, by rw [sz_new, e], hb, fun j hj => by simp [newA, e, hj]⟩
theorem g_len (X : Stand p l e R s m args below meth c T locs cells slots) (hx : p.tables.exec = Jvm.exec) (hZ : Z.Warmed39 s.vm) (eT : T.heap = h) (F : Av Z h a ty sz f) (hd : decode c.code pc = .ok (.arraylength, 1)) (hn : pc + 1 = n) (k : Go p e below Nd Q T (mkF m n Ls (.int (Int32.ofNat sz) :: st))) : Go p e below Nd Q T (mkF m pc Ls (.ref a :: st)) := by
  subst hn
  obtain ⟨cl, A, S, b, H⟩ := F
  refine Go.stp (fun t q => X.arraylength hx (cell := cl) (by rw [eT]; exact A.1) (State.isArrayOf_alike hZ.alike A.2.1) (g := mkF m pc Ls (.ref a :: st)) rfl rfl hd t q) ?_
  rw [S]; exact k
theorem g_iaload (X : Stand p l e R s m args below meth c T locs cells slots) (hx : p.tables.exec = Jvm.exec) (hZ : Z.Warmed39 s.vm) (eT : T.heap = h) (F : Av Z h a .int sz f) (i : Nat) {j : Int32} (hj : j = Int32.ofNat i) (hi : i < sz) (v : Value) (hv : f i = v) (hd : decode c.code pc = .ok (.iaload, 1)) (hn : pc + 1 = n) (k : Go p e below Nd Q T (mkF m n Ls (v :: st))) : Go p e below Nd Q T (mkF m pc Ls (.int j :: .ref a :: st)) := by
  subst hn hv
  obtain ⟨cl, A, S, b, H⟩ := F
  obtain ⟨q1, q2⟩ := own_in hj S hi b
  exact Go.stp (fun t q => X.iaload hx (j := j) (v := f i) (by rw [eT]; exact A.1) (State.isArrayOf_alike hZ.alike A.2.1) A.2.2 q1 (by rw [q2]; exact H i hi) (g := mkF m pc Ls (.int j :: .ref a :: st)) rfl rfl hd t q) k
theorem g_caload (X : Stand p l e R s m args below meth c T locs cells slots) (hx : p.tables.exec = Jvm.exec) (hZ : Z.Warmed39 s.vm) (eT : T.heap = h) (F : Av Z h a .char sz f) (i : Nat) {j : Int32} (hj : j = Int32.ofNat i) (hi : i < sz) (v : Value) (hv : f i = v) (hd : decode c.code pc = .ok (.caload, 1)) (hn : pc + 1 = n) (k : Go p e below Nd Q T (mkF m n Ls (v :: st))) : Go p e below Nd Q T (mkF m pc Ls (.int j :: .ref a :: st)) := by
  subst hn hv
  obtain ⟨cl, A, S, b, H⟩ := F
  obtain ⟨q1, q2⟩ := own_in hj S hi b
  exact Go.stp (fun t q => X.caload hx (j := j) (v := f i) (by rw [eT]; exact A.1) (State.isArrayOf_alike hZ.alike A.2.1) A.2.2 q1 (by rw [q2]; exact H i hi) (g := mkF m pc Ls (.int j :: .ref a :: st)) rfl rfl hd t q) k
theorem g_baload (X : Stand p l e R s m args below meth c T locs cells slots) (hx : p.tables.exec = Jvm.exec) (hZ : Z.Warmed39 s.vm) (eT : T.heap = h) (F : Av Z h a .byte sz f) (i : Nat) {j : Int32} (hj : j = Int32.ofNat i) (hi : i < sz) (v : Value) (hv : f i = v) (hd : decode c.code pc = .ok (.baload, 1)) (hn : pc + 1 = n) (k : Go p e below Nd Q T (mkF m n Ls (v :: st))) : Go p e below Nd Q T (mkF m pc Ls (.int j :: .ref a :: st)) := by
  subst hn hv
  obtain ⟨cl, A, S, b, H⟩ := F
  obtain ⟨q1, q2⟩ := own_in hj S hi b
  exact Go.stp (fun t q => X.baloadBytes hx (j := j) (v := f i) (by rw [eT]; exact A.1) (State.isArrayOf_alike hZ.alike A.2.1) A.2.2 q1 (by rw [q2]; exact H i hi) (g := mkF m pc Ls (.int j :: .ref a :: st)) rfl rfl hd t q) k
theorem g_aaload (X : Stand p l e R s m args below meth c T locs cells slots) (hx : p.tables.exec = Jvm.exec) (hZ : Z.Warmed39 s.vm) (eT : T.heap = h) (F : Av Z h a ty sz f) (hty : ty.isReference = true) (i : Nat) {j : Int32} (hj : j = Int32.ofNat i) (hi : i < sz) (v : Value) (hv : f i = v) (hd : decode c.code pc = .ok (.aaload, 1)) (hn : pc + 1 = n) (k : Go p e below Nd Q T (mkF m n Ls (v :: st))) : Go p e below Nd Q T (mkF m pc Ls (.int j :: .ref a :: st)) := by
  subst hn hv
  obtain ⟨cl, A, S, b, H⟩ := F
  obtain ⟨q1, q2⟩ := own_in hj S hi b
  exact Go.stp (fun t q => X.aaload hx (j := j) (v := f i) (by rw [eT]; exact A.1) (State.isArrayOf_alike hZ.alike A.2.1) hty A.2.2 q1 (by rw [q2]; exact H i hi) (g := mkF m pc Ls (.int j :: .ref a :: st)) rfl rfl hd t q) k
theorem g_iastore (X : Stand p l e R s m args below meth c T locs cells slots) (hx : p.tables.exec = Jvm.exec) (hZ : Z.Warmed39 s.vm) (eT : T.heap = h) (F : Av Z h a .int sz f) (i : Nat) {j x : Int32} (hj : j = Int32.ofNat i) (hi : i < sz) (hd : decode c.code pc = .ok (.iastore, 1)) (hn : pc + 1 = n)
    (k : ∀ T' h', Stand p l e R s m args below meth c T' (locs ++ [⟨a, i⟩]) cells slots → T'.heap = h' → Wr h h' a i (.int x) → Av Z h' a .int sz (fun w => if w = i then (.int x) else f w) → Go p e below Nd Q T' (mkF m n Ls st)) : Go p e below Nd Q T (mkF m pc Ls (.int x :: .int j :: .ref a :: st)) := by
  subst hn
  have F0 := F
  obtain ⟨cl, A, S, b, H⟩ := F
  obtain ⟨q1, q2⟩ := own_in hj S hi b
  obtain ⟨T1, h1, X1, e1, W1, st1⟩ := stI X hx hZ eT A (j := j) q1 (g := mkF m pc Ls (.int x :: .int j :: .ref a :: st)) rfl rfl hd
  rw [q2] at X1 W1
  exact Go.stp st1 (k T1 h1 X1 e1 W1 (F0.set W1 hi))
theorem g_castore (X : Stand p l e R s m args below meth c T locs cells slots) (hx : p.tables.exec = Jvm.exec) (hZ : Z.Warmed39 s.vm) (eT : T.heap = h) (F : Av Z h a .char sz f) (i : Nat) {j x : Int32} (hj : j = Int32.ofNat i) (hi : i < sz) (hd : decode c.code pc = .ok (.castore, 1)) (hn : pc + 1 = n)
    (k : ∀ T' h', Stand p l e R s m args below meth c T' (locs ++ [⟨a, i⟩]) cells slots → T'.heap = h' → Wr h h' a i (.int (nar .char x)) → Av Z h' a .char sz (fun w => if w = i then (.int (nar .char x)) else f w) → Go p e below Nd Q T' (mkF m n Ls st)) : Go p e below Nd Q T (mkF m pc Ls (.int x :: .int j :: .ref a :: st)) := by
  subst hn
  have F0 := F
  obtain ⟨cl, A, S, b, H⟩ := F
  obtain ⟨q1, q2⟩ := own_in hj S hi b
  obtain ⟨T1, h1, X1, e1, W1, st1⟩ := stC X hx hZ eT A (j := j) q1 (g := mkF m pc Ls (.int x :: .int j :: .ref a :: st)) rfl rfl hd
  rw [q2] at X1 W1
  exact Go.stp st1 (k T1 h1 X1 e1 W1 (F0.set W1 hi))
theorem g_bastore (X : Stand p l e R s m args below meth c T locs cells slots) (hx : p.tables.exec = Jvm.exec) (hZ : Z.Warmed39 s.vm) (eT : T.heap = h) (F : Av Z h a .byte sz f) (i : Nat) {j x : Int32} (hj : j = Int32.ofNat i) (hi : i < sz) (hd : decode c.code pc = .ok (.bastore, 1)) (hn : pc + 1 = n)
    (k : ∀ T' h', Stand p l e R s m args below meth c T' (locs ++ [⟨a, i⟩]) cells slots → T'.heap = h' → Wr h h' a i (.int (nar .byte x)) → Av Z h' a .byte sz (fun w => if w = i then (.int (nar .byte x)) else f w) → Go p e below Nd Q T' (mkF m n Ls st)) : Go p e below Nd Q T (mkF m pc Ls (.int x :: .int j :: .ref a :: st)) := by
  subst hn
  have F0 := F
  obtain ⟨cl, A, S, b, H⟩ := F
  obtain ⟨q1, q2⟩ := own_in hj S hi b
  obtain ⟨T1, h1, X1, e1, W1, st1⟩ := stB X hx hZ eT A (j := j) q1 (g := mkF m pc Ls (.int x :: .int j :: .ref a :: st)) rfl rfl hd
  rw [q2] at X1 W1
  exact Go.stp st1 (k T1 h1 X1 e1 W1 (F0.set W1 hi))
theorem g_aastore (X : Stand p l e R s m args below meth c T locs cells slots) (hx : p.tables.exec = Jvm.exec) (hZ : Z.Warmed39 s.vm) (eT : T.heap = h) (F : Av Z h a ty sz f) (hty : ty.isReference = true) (i : Nat) {j : Int32} (hj : j = Int32.ofNat i) (hi : i < sz) (hS : Sto Z h a v) (hd : decode c.code pc = .ok (.aastore, 1)) (hn : pc + 1 = n)
    (k : ∀ T' h', Stand p l e R s m args below meth c T' (locs ++ [⟨a, i⟩]) cells slots → T'.heap = h' → Wr h h' a i v → Av Z h' a ty sz (fun w => if w = i then v else f w) → Go p e below Nd Q T' (mkF m n Ls st)) : Go p e below Nd Q T (mkF m pc Ls (v :: .int j :: .ref a :: st)) := by
  subst hn
  have F0 := F
  obtain ⟨cl, A, S, b, H⟩ := F
  obtain ⟨q1, q2⟩ := own_in hj S hi b
  obtain ⟨T1, h1, X1, e1, W1, st1⟩ := stR X hx hZ eT A (j := j) q1 hty hS (g := mkF m pc Ls (v :: .int j :: .ref a :: st)) rfl rfl hd
  rw [q2] at X1 W1
  exact Go.stp st1 (k T1 h1 X1 e1 W1 (F0.set W1 hi))
theorem g_newarray (X : Stand p l e R s m args below meth c T locs cells slots) (hx : p.tables.exec = Jvm.exec) (hZ : Z.Warmed39 s.vm) {aty : ArrayType} (ty : FieldType) (hty : newarray.typeOf aty = ty) (w : (Cond.arrayClass ty).before a0 Z = true) (eT : T.heap = h) {N : Int32} (sz : Nat) (hN : N = Int32.ofNat sz) (cap : Nat) (hcap : sz ≤ cap) (hb : cap * 8 ≤ 536870912) (hc : cells + 1 ≤ R.cells) (hl : slots + cap ≤ R.slots) (hd : decode c.code pc = .ok (.newarray aty, 2)) (hn : pc + 2 = n)
    (k : ∀ T' h' a, Stand p l e R s m args below meth c T' locs (cells + 1) (slots + cap) → T'.heap = h' → a = h.size → Ext h h' → Av Z h' a ty sz (fun _ => defaultValue ty) → Go p e below Nd Q T' (mkF m n Ls (.ref a :: st))) : Go p e below Nd Q T (mkF m pc Ls (.int N :: st)) := by
  subst hn hty
  have hb' : sz < 2 ^ 31 := by omega
  have e0 := len_toInt (n := sz) hb'
  have e : N.toNatClampNeg = sz := by subst hN; show (Nat.toInt32 sz).toNatClampNeg = sz; simp only [Int32.toNatClampNeg, e0]; rfl
  have hneg : ¬ N < 0 := by subst hN; rw [Int32.lt_iff_toInt_lt]; show ¬ (Nat.toInt32 sz).toInt < 0; rw [e0]; omega
  obtain ⟨T1, h1, cA, X1, e1, E1, A1, st1⟩ := newP X hx hZ w eT (g := mkF m pc Ls (.int N :: st)) rfl hd rfl hneg (cap := cap) (by rw [e]; exact hcap) hb hc hl
  exact Go.stp st1 (k T1 h1 h.size X1 e1 rfl E1 (Av.new A1 hN hb'))
theorem g_anewarray (X : Stand p l e R s m args below meth c T locs cells slots) (hx : p.tables.exec = Jvm.exec) (hZ : Z.Warmed39 s.vm) {K : String} (hown : s.vm.findClass own = some m.cls) (w1 : (Cond.classLink own index K).before a0 Z = true) (w2 : (Cond.arrayOver (.object K)).before a0 Z = true) (eT : T.heap = h) {N : Int32} (sz : Nat) (hN : N = Int32.ofNat sz) (cap : Nat) (hcap : sz ≤ cap) (hb : cap * 8 ≤ 536870912) (hc : cells + 1 ≤ R.cells) (hl : slots + cap ≤ R.slots) (hd : decode c.code pc = .ok (.anewarray index, 3)) (hn : pc + 3 = n)
    (k : ∀ T' h' a, Stand p l e R s m args below meth c T' locs (cells + 1) (slots + cap) → T'.heap = h' → a = h.size → Ext h h' → Av Z h' a (.object K) sz (fun _ => .null) → (∃ cl : Cell, h'[a]? = some cl ∧ Ovr Z cl.cls K) → Go p e below Nd Q T' (mkF m n Ls (.ref a :: st))) : Go p e below Nd Q T (mkF m pc Ls (.int N :: st)) := by
  subst hn
  have hb' : sz < 2 ^ 31 := by omega
  have e0 := len_toInt (n := sz) hb'
  have e : N.toNatClampNeg = sz := by subst hN; show (Nat.toInt32 sz).toNatClampNeg = sz; simp only [Int32.toNatClampNeg, e0]; rfl
  have hneg : ¬ N < 0 := by subst hN; rw [Int32.lt_iff_toInt_lt]; show ¬ (Nat.toInt32 sz).toInt < 0; rw [e0]; omega
  obtain ⟨T1, h1, cA, X1, e1, E1, A1, O1, st1⟩ := newR X hx hZ hown w1 w2 eT (g := mkF m pc Ls (.int N :: st)) rfl hd rfl hneg (cap := cap) (by rw [e]; exact hcap) hb hc hl
  exact Go.stp st1 (k T1 h1 h.size X1 e1 rfl E1 (Av.new A1 hN hb') ⟨_, A1.1, O1⟩)
theorem own_arv {f : Nat → Value} {sz : Nat} (F : Av Z h a ty sz f) (hf : ∀ j, j < sz → fits ty (f j) = true) : ∃ k, Arv Z h a k ty (Int32.ofNat sz) ((List.range sz).map f) .null := by
  obtain ⟨cl, A, S, b, H⟩ := F
  have e0 := len_toInt (n := sz) b
  have g : ∀ j, j < sz → ((List.range sz).map f).getD j .null = f j := fun j hj => by simp [List.getD_eq_getElem?_getD, hj]
  refine ⟨cl.cls, cl, A, rfl, ?_, ?_, fun j hj => ?_, fun j hj => ?_⟩
  · rw [S]; show sz = (Nat.toInt32 sz).toNatClampNeg; simp only [Int32.toNatClampNeg, e0]; rfl
  · rw [Int32.lt_iff_toInt_lt]; show ¬ (Nat.toInt32 sz).toInt < 0; rw [e0]; omega
  · rw [S] at hj; rw [g j hj]; exact H j hj
  · rw [S] at hj; rw [g j hj]; exact hf j hj
theorem own_stoL : ∀ (us : List Value), (∀ u ∈ us, Sto Z h a u) → StoL Z h a us
  | [], _ => trivial
  | u :: r, q => ⟨q u (by simp), own_stoL r (fun x hx => q x (by simp [hx]))⟩
theorem own_nat {k : Nat} (hk : k < 2 ^ 31) : (Int32.ofNat k).toNatClampNeg = k ∧ ¬ Int32.ofNat k < 0 := by
  have e0 := len_toInt (n := k) hk
  constructor
  · show (Nat.toInt32 k).toNatClampNeg = k; simp only [Int32.toNatClampNeg, e0]; rfl
  · rw [Int32.lt_iff_toInt_lt]; show ¬ (Nat.toInt32 k).toInt < 0; rw [e0]; omega
/-- System.arraycopy within bounds, what is copied fitting -/
theorem g_acopy (X : Stand p l e R s m args below meth c T locs cells slots) (hx : p.tables.exec = Jvm.exec) (hZ : Z.Warmed39 s.vm) (hown : s.vm.findClass own = some m.cls) (w1 : (Cond.methodLink own index ⟨"java/lang/System", "arraycopy", "(Ljava/lang/Object;ILjava/lang/Object;II)V"⟩).before a0 Z = true) (w2 : (Cond.native ⟨"java/lang/System", "arraycopy", "(Ljava/lang/Object;ILjava/lang/Object;II)V"⟩).before a0 Z = true) (w3 : (Cond.static ⟨"java/lang/System", "arraycopy", "(Ljava/lang/Object;ILjava/lang/Object;II)V"⟩).before a0 Z = true) (w4 : (Cond.initialized "java/lang/System").before a0 Z = true) (eT : T.heap = h)
    {f' : Nat → Value} {sz' : Nat} (A : Av Z h a ty sz f) (B : Av Z h b ty sz' f') (hfA : ∀ j, j < sz → fits ty (f j) = true) (hfB : ∀ j, j < sz' → fits ty (f' j) = true) (sp dp nn : Nat) (hty : refKind ty = false ∨ (refKind ty = true ∧ ∀ i, i < nn → Sto Z h b (f (sp + i)))) (h4 : sp + nn ≤ sz) (h5 : dp + nn ≤ sz')
    {vs vd vn : Int32} (hvs : vs = Int32.ofNat sp) (hvd : vd = Int32.ofNat dp) (hvn : vn = Int32.ofNat nn) {n0 : Nat} (N : Fr n0 locs) (ge : n0 ≤ b) (hd : decode c.code pc = .ok (.invokestatic index, 3)) (hn : pc + 3 = n) (hsize : Ls.size = c.maxLocals) (hf : 1 ≤ R.frames) (W : Nat) (hW : (st.map fun v => v.category).sum ≤ W) (hlo : W + (nativeFrameWords "java/lang/System" "arraycopy" 5 + 11) ≤ R.locals)
    (k : ∀ T' h' L, Stand p l e R s m args below meth c T' L cells slots → T'.heap = h' → Fr n0 L → Keep h h' [b] → Av Z h' b ty sz' (fun j => if dp ≤ j ∧ j < dp + nn then f (sp + (j - dp)) else f' j) → Go p e below Nd Q T' (mkF m n Ls st)) : Go p e below Nd Q T (mkF m pc Ls (.int vn :: .int vd :: .ref b :: .int vs :: .ref a :: st)) := by
  subst hn hvs hvd hvn
  have bA := A.bnd
  have bB := B.bnd
  obtain ⟨kA, VA⟩ := own_arv A hfA
  obtain ⟨kB, VB⟩ := own_arv B hfB
  obtain ⟨s1, s2⟩ := own_nat (k := sp) (by omega)
  obtain ⟨d1, d2⟩ := own_nat (k := dp) (by omega)
  obtain ⟨l1, l2⟩ := own_nat (k := nn) (by omega)
  obtain ⟨zA, -⟩ := own_nat (k := sz) bA
  obtain ⟨zB, -⟩ := own_nat (k := sz') bB
  have hus : (List.range nn).map (fun i => f (sp + i)) = (List.range (Int32.ofNat nn).toNatClampNeg).map fun i => ((List.range sz).map f).getD ((Int32.ofNat sp).toNatClampNeg + i) .null := by
    rw [l1, s1]
    apply List.map_congr_left
    intro i hi
    have := List.mem_range.mp hi
    simp [List.getD_eq_getElem?_getD, show sp + i < sz by omega]
  obtain ⟨T1, h1, L1, X1, e1, N1, K1, V1, st1⟩ := cpA X hx hZ hown w1 w2 w3 w4 eT (us := (List.range nn).map (fun i => f (sp + i))) VA VB (by
      rcases hty with q | ⟨q1, q2⟩
      · exact Or.inl ⟨rfl, q⟩
      · refine Or.inr ⟨q1, q1, own_stoL _ (fun u hu => ?_)⟩
        obtain ⟨i, hi, rfl⟩ := List.mem_map.mp hu
        exact q2 i (List.mem_range.mp hi)) s2 d2 l2 (by rw [s1, l1, zA]; exact h4) (by rw [d1, l1, zB]; exact h5) hus (by rw [d1, l1]; simpa using h5) N ge (g := mkF m pc Ls (.int (Int32.ofNat nn) :: .int (Int32.ofNat dp) :: .ref b :: .int (Int32.ofNat sp) :: .ref a :: st)) rfl hsize rfl hd hf (W := W) (by show 2 * 0 + _ ≤ _; omega) hlo
  refine Go.stp st1 (k T1 h1 L1 X1 e1 N1 K1 ?_)
  obtain ⟨cl, A1, -, S1, -, H1, -⟩ := V1
  rw [zB] at S1
  refine ⟨cl, A1, S1, bB, fun j hj => ?_⟩
  rw [H1 j (by rw [S1]; exact hj), d1, l1]
  congr 1
  simp only [List.getD_eq_getElem?_getD]
  by_cases c1 : j < dp
  · rw [if_neg (by omega), List.append_assoc, List.getElem?_append_left (by simp; omega)]
    simp [List.getElem?_take, c1, hj]
  · by_cases c2 : j < dp + nn
    · rw [if_pos ⟨by omega, c2⟩, List.getElem?_append_left (by simp; omega), List.getElem?_append_right (by simp; omega)]
      simp [show min dp sz' = dp by omega, show j - dp < nn by omega]
    · rw [if_neg (by omega), List.getElem?_append_right (by simp; omega)]
      simp [show min dp sz' = dp by omega, List.getElem?_drop, show dp + nn + (j - (dp + nn)) = j by omega, hj]
end OwnKit

/-! the table of places, plainly: open addressing in a list -/
def own_find (L : List Nat) (sl v : Nat) : Nat → Nat → Option Nat
  | 0, _ => none
  | f + 1, j => if L.getD j 0 = v then some j else own_find L sl v f ((j + 1) % sl)
theorem own_find_lt (L : List Nat) (sl v : Nat) (hs : 0 < sl) : ∀ f q j, q < sl → own_find L sl v f q = some j → j < sl := by
  intro f
  induction f with
  | zero => intro q j _ h; cases h
  | succ f ih =>
    intro q j hq h
    unfold own_find at h
    split at h
    · cases h; exact hq
    · exact ih _ _ (Nat.mod_lt _ hs) h
def own_look (L : List Nat) (sl pos : Nat) : Nat → Nat → Option (Option Nat)
  | 0, _ => none
  | f + 1, j => if L.getD j 0 = 0 then some none else if L.getD j 0 - 1 = pos then some (some pos) else own_look L sl pos f ((j + 1) % sl)
def own_P (zs : Nat → Nat) (sl : Nat) : Nat → List Nat
  | 0 => List.replicate sl 0
  | k + 1 => match own_find (own_P zs sl k) sl 0 8 (zs k % sl) with
    | some j => (own_P zs sl k).set j (k + 1)
    | none => own_P zs sl k
def own_zs (z0 z1 z2 : Nat) : Nat → Nat
  | 0 => z0
  | 1 => z1
  | _ => z2
def own_ok1 (zs : Nat → Nat) (sl k : Nat) : Bool := decide ((own_P zs sl k).length = sl) && (List.range sl).all fun x => decide ((own_P zs sl k).getD x 0 ≤ k)
def own_ok2 (zs : Nat → Nat) (sl k : Nat) : Bool := (own_find (own_P zs sl k) sl 0 8 (zs k % sl)).isSome && match own_find (own_P zs sl (k + 1)) sl (k + 1) 8 (zs k % sl) with | some j => decide ((own_P zs sl (k + 1)).set j 0 = own_P zs sl k) | none => false
def own_ok3 (zs : Nat → Nat) (sl e pos : Nat) : Bool := decide (own_look (own_P zs sl e) sl pos 8 (zs pos % sl) = some (if pos < e then some pos else none))
def own_ok (zs : Nat → Nat) (sl kmax : Nat) : Bool := ((List.range (kmax + 1)).all fun k => own_ok1 zs sl k) && (((List.range kmax).all fun k => own_ok2 zs sl k) && (List.range (kmax + 1)).all fun e => (List.range 3).all fun pos => own_ok3 zs sl e pos)
theorem own_brute : ∀ z0 z1 z2 : Fin 8, (own_ok (own_zs z0.val z1.val z2.val) 2 1 && (own_ok (own_zs z0.val z1.val z2.val) 4 2 && own_ok (own_zs z0.val z1.val z2.val) 8 3)) = true := by decide +kernel
/-- a size of table and the most it is asked to hold -/
def own_pair (sl kmax : Nat) : Prop := (sl = 2 ∧ kmax = 1) ∨ (sl = 4 ∧ kmax = 2) ∨ (sl = 8 ∧ kmax = 3)
theorem own_all (z0 z1 z2 sl kmax : Nat) (h0 : z0 < 8) (h1 : z1 < 8) (h2 : z2 < 8) (hp : own_pair sl kmax) : own_ok (own_zs z0 z1 z2) sl kmax = true := by
  have h := own_brute ⟨z0, h0⟩ ⟨z1, h1⟩ ⟨z2, h2⟩
  simp only [Bool.and_eq_true] at h
  rcases hp with ⟨rfl, rfl⟩ | ⟨rfl, rfl⟩ | ⟨rfl, rfl⟩
  · exact h.1
  · exact h.2.1
  · exact h.2.2
theorem own_ok_len {zs : Nat → Nat} {sl kmax k : Nat} (h : own_ok zs sl kmax = true) (hk : k ≤ kmax) : (own_P zs sl k).length = sl ∧ ∀ x, (own_P zs sl k).getD x 0 ≤ k := by
  unfold own_ok at h
  simp only [Bool.and_eq_true, List.all_eq_true] at h
  have q := h.1 k (List.mem_range.mpr (by omega))
  unfold own_ok1 at q
  simp only [Bool.and_eq_true, List.all_eq_true, decide_eq_true_eq] at q
  refine ⟨q.1, fun x => ?_⟩
  by_cases hx : x < sl
  · exact q.2 x (List.mem_range.mpr hx)
  · rw [List.getD_eq_getElem?_getD, List.getElem?_eq_none (by omega)]; exact Nat.zero_le _
theorem own_ok_put {zs : Nat → Nat} {sl kmax k : Nat} (h : own_ok zs sl kmax = true) (hk : k < kmax) : ∃ j, own_find (own_P zs sl k) sl 0 8 (zs k % sl) = some j ∧ own_P zs sl (k + 1) = (own_P zs sl k).set j (k + 1) := by
  unfold own_ok at h
  simp only [Bool.and_eq_true, List.all_eq_true] at h
  have q := h.2.1 k (List.mem_range.mpr hk)
  unfold own_ok2 at q
  simp only [Bool.and_eq_true] at q
  obtain ⟨j, hj⟩ := Option.isSome_iff_exists.mp q.1
  exact ⟨j, hj, by rw [own_P, hj]⟩
theorem own_ok_cut {zs : Nat → Nat} {sl kmax k : Nat} (h : own_ok zs sl kmax = true) (hk : k < kmax) : ∃ j, own_find (own_P zs sl (k + 1)) sl (k + 1) 8 (zs k % sl) = some j ∧ (own_P zs sl (k + 1)).set j 0 = own_P zs sl k := by
  unfold own_ok at h
  simp only [Bool.and_eq_true, List.all_eq_true] at h
  have q := h.2.1 k (List.mem_range.mpr hk)
  unfold own_ok2 at q
  simp only [Bool.and_eq_true] at q
  have q2 := q.2
  cases hj : own_find (own_P zs sl (k + 1)) sl (k + 1) 8 (zs k % sl) with
  | none => rw [hj] at q2; cases q2
  | some j => rw [hj] at q2; exact ⟨j, rfl, of_decide_eq_true q2⟩
theorem own_ok_look {zs : Nat → Nat} {sl kmax e pos : Nat} (h : own_ok zs sl kmax = true) (he : e ≤ kmax) (hp : pos < 3) : own_look (own_P zs sl e) sl pos 8 (zs pos % sl) = some (if pos < e then some pos else none) := by
  unfold own_ok at h
  simp only [Bool.and_eq_true, List.all_eq_true] at h
  have q := h.2.2 e (List.mem_range.mpr (by omega)) pos (List.mem_range.mpr hp)
  unfold own_ok3 at q
  exact of_decide_eq_true q
/-! ints -/
def own_h (v : Int32) : Int32 := (v * (-1640531527 : Int32)) ^^^ XT.ushr (v * (-1640531527 : Int32)) (16 : Int32)
def own_z (v : Int32) : Nat := (own_h v &&& 7).toInt.toNat
theorem own_z_lt (v : Int32) : own_z v < 8 := by
  have e1 : (own_h v &&& 7).toInt = (own_h v).toInt % 2 ^ 3 := Jvm.Kit.i32_mask (own_h v) 7 (k := 3) (by decide) (by decide)
  unfold own_z; omega
theorem own_start (v : Int32) (sl : Nat) (hs : sl = 2 ∨ sl = 4 ∨ sl = 8) : own_h v &&& (Int32.ofNat sl - (1 : Int32)) = Int32.ofNat (own_z v % sl) := by
  have e3 : (own_h v &&& 7).toInt = (own_h v).toInt % 2 ^ 3 := Jvm.Kit.i32_mask (own_h v) 7 (k := 3) (by decide) (by decide)
  have e2 : (own_h v &&& 3).toInt = (own_h v).toInt % 2 ^ 2 := Jvm.Kit.i32_mask (own_h v) 3 (k := 2) (by decide) (by decide)
  have e1 : (own_h v &&& 1).toInt = (own_h v).toInt % 2 ^ 1 := Jvm.Kit.i32_mask (own_h v) 1 (k := 1) (by decide) (by decide)
  unfold own_z
  apply Int32.toInt_inj.mp
  rcases hs with rfl | rfl | rfl
  · rw [show Int32.ofNat 2 - (1 : Int32) = 1 from by decide, Int32.toInt_ofNat_small (by omega)]; omega
  · rw [show Int32.ofNat 4 - (1 : Int32) = 3 from by decide, Int32.toInt_ofNat_small (by omega)]; omega
  · rw [show Int32.ofNat 8 - (1 : Int32) = 7 from by decide, Int32.toInt_ofNat_small (by omega)]; omega
theorem own_next2 : ∀ j : Fin 2, (Int32.ofNat j.val + (1 : Int32)) &&& (Int32.ofNat 2 - (1 : Int32)) = Int32.ofNat ((j.val + 1) % 2) := by decide
theorem own_next4 : ∀ j : Fin 4, (Int32.ofNat j.val + (1 : Int32)) &&& (Int32.ofNat 4 - (1 : Int32)) = Int32.ofNat ((j.val + 1) % 4) := by decide
theorem own_next8 : ∀ j : Fin 8, (Int32.ofNat j.val + (1 : Int32)) &&& (Int32.ofNat 8 - (1 : Int32)) = Int32.ofNat ((j.val + 1) % 8) := by decide
theorem own_next (j sl : Nat) (hs : sl = 2 ∨ sl = 4 ∨ sl = 8) (hj : j < sl) : (Int32.ofNat j + (1 : Int32)) &&& (Int32.ofNat sl - (1 : Int32)) = Int32.ofNat ((j + 1) % sl) := by
  rcases hs with rfl | rfl | rfl
  · exact own_next2 ⟨j, hj⟩
  · exact own_next4 ⟨j, hj⟩
  · exact own_next8 ⟨j, hj⟩
theorem own_eq {i n : Nat} (hi : i < 2 ^ 31) (hn : n < 2 ^ 31) : Int32.ofNat i = Int32.ofNat n ↔ i = n := by
  constructor
  · intro h; have := congrArg Int32.toInt h; rw [Int32.toInt_ofNat_small hi, Int32.toInt_ofNat_small hn] at this; omega
  · intro h; rw [h]
theorem own_sub (a b : Nat) (h : b ≤ a) : Int32.ofNat a - Int32.ofNat b = Int32.ofNat (a - b) := (Int32.ofNat_sub a b h).symm
theorem own_add1 (i : Nat) : Int32.ofNat i + (1 : Int32) = Int32.ofNat (i + 1) := own_inc i
theorem own_dbl (i : Nat) : Int32.ofNat i * (2 : Int32) = Int32.ofNat (i * 2) := (Int32.ofNat_mul i 2).symm
def own_min (x y : Int32) : Int32 := if y < x then y else x
theorem own_min_nat (a b : Nat) (ha : a < 2 ^ 31) (hb : b < 2 ^ 31) : own_min (Int32.ofNat a) (Int32.ofNat b) = Int32.ofNat (min a b) := by
  unfold own_min
  by_cases h : b < a
  · rw [if_pos (by rw [Int32.lt_iff_toInt_lt, Int32.toInt_ofNat_small ha, Int32.toInt_ofNat_small hb]; omega), Nat.min_eq_right (by omega)]
  · rw [if_neg (by rw [Int32.lt_iff_toInt_lt, Int32.toInt_ofNat_small ha, Int32.toInt_ofNat_small hb]; omega), Nat.min_eq_left (by omega)]
theorem own_getset (L : List Nat) (j v x : Nat) (hj : j < L.length) : (L.set j v).getD x 0 = if x = j then v else L.getD x 0 := by
  simp only [List.getD_eq_getElem?_getD, List.getElem?_set]
  by_cases h : x = j
  · subst h; simp [hj]
  · simp [h, Ne.symm h]
def own_res : Option Nat → Int32
  | none => -1
  | some p => Int32.ofNat p
def own_abc (a b c : Int32) : Nat → Int32
  | 0 => a
  | 1 => b
  | _ => c
theorem own_m2 (x : Int32) : (x &&& (1 : Int32)) = 0 ∨ (x &&& (1 : Int32)) = 1 := by
  have e1 : (x &&& 1).toInt = x.toInt % 2 ^ 1 := Jvm.Kit.i32_mask x 1 (k := 1) (by decide) (by decide)
  have h : (x &&& 1).toInt = 0 ∨ (x &&& 1).toInt = 1 := by omega
  rcases h with h | h
  · exact Or.inl (Int32.toInt_inj.mp h)
  · exact Or.inr (Int32.toInt_inj.mp h)
theorem own_m3 (x : Int32) : (x &&& (3 : Int32)) = 0 ∨ (x &&& (3 : Int32)) = 1 ∨ (x &&& (3 : Int32)) = 2 ∨ (x &&& (3 : Int32)) = 3 := by
  have e1 : (x &&& 3).toInt = x.toInt % 2 ^ 2 := Jvm.Kit.i32_mask x 3 (k := 2) (by decide) (by decide)
  have h : (x &&& 3).toInt = 0 ∨ (x &&& 3).toInt = 1 ∨ (x &&& 3).toInt = 2 ∨ (x &&& 3).toInt = 3 := by omega
  rcases h with h | h | h | h
  · exact Or.inl (Int32.toInt_inj.mp h)
  · exact Or.inr (Or.inl (Int32.toInt_inj.mp h))
  · exact Or.inr (Or.inr (Or.inl (Int32.toInt_inj.mp h)))
  · exact Or.inr (Or.inr (Or.inr (Int32.toInt_inj.mp h)))
theorem own_m8 (x : Int32) : ∃ n : Nat, n ≤ 7 ∧ (x &&& (7 : Int32)) = Int32.ofNat n := by
  have e1 : (x &&& 7).toInt = x.toInt % 2 ^ 3 := Jvm.Kit.i32_mask x 7 (k := 3) (by decide) (by decide)
  refine ⟨(x &&& 7).toInt.toNat, by omega, ?_⟩
  apply Int32.toInt_inj.mp
  rw [Int32.toInt_ofNat_small (by omega)]
  omega
theorem own_rep (sl x : Nat) : (List.replicate sl 0).getD x 0 = 0 := by
  rw [List.getD_eq_getElem?_getD, List.getElem?_replicate]; split <;> rfl
theorem own_zs0 (a b c : Nat) : own_zs a b c 0 = a := rfl
theorem own_zs1 (a b c : Nat) : own_zs a b c 1 = b := rfl
theorem own_zs2 (a b c : Nat) : own_zs a b c 2 = c := rfl
theorem own_abc0 (a b c : Int32) : own_abc a b c 0 = a := rfl
theorem own_abc1 (a b c : Int32) : own_abc a b c 1 = b := rfl
theorem own_abc2 (a b c : Int32) : own_abc a b c 2 = c := rfl

theorem pd_0 : parseMethodDescriptor "(II)I" = some ⟨[.int, .int], some (.int)⟩ := by decide +kernel
theorem pd_1 : parseMethodDescriptor "(I)V" = some ⟨[.int], none⟩ := by decide +kernel
theorem pd_2 : parseMethodDescriptor "([II)[I" = some ⟨[.array (.int), .int], some (.array (.int))⟩ := by decide +kernel
theorem pd_3 : parseMethodDescriptor "()I" = some ⟨[], some (.int)⟩ := by decide +kernel
theorem pd_4 : parseMethodDescriptor "(I)I" = some ⟨[.int], some (.int)⟩ := by decide +kernel
def Co (Z : State) (h : Heap) (o cA sA : Nat) (n : Nat) : Prop := Exa Z h o "com/example/caddisfly/caddisfly/tableau/ConceptIndex" ∧ Fld Z h o "com/example/caddisfly/caddisfly/tableau/ConceptIndex" "concepts" "[I" (.ref cA) ∧ Fld Z h o "com/example/caddisfly/caddisfly/tableau/ConceptIndex" "slots" "[I" (.ref sA) ∧ Fld Z h o "com/example/caddisfly/caddisfly/tableau/ConceptIndex" "size" "I" (.int (Int32.ofNat n))
section OwnQ
variable {Z : State} {a0 : Array Value} {h h' : Heap} {b o cA sA : Nat} {n : Nat} {sl : Nat} {v : Value} {ws : List Nat}
theorem Co.ext (F : Co Z h o cA sA n) (E : Ext h h') : Co Z h' o cA sA n := ⟨F.1.ext E, F.2.1.ext E, F.2.2.1.ext E, F.2.2.2.ext E⟩
theorem Co.keep (F : Co Z h o cA sA n) (K : Keep h h' ws) (q : o ∉ ws) : Co Z h' o cA sA n := ⟨F.1.keep K, F.2.1.keep K q, F.2.2.1.keep K q, F.2.2.2.keep K q⟩
theorem Co.other (F : Co Z h o cA sA n) (W : Wr h h' b sl v) (q : o ≠ b) : Co Z h' o cA sA n := F.keep (Keep.of_wr W) (ninS q nin0)
theorem Co.wconcepts (hw : ∀ d ∈ tables_1, d.before a0 Z = true) (r : Nat) (F : Co Z h o cA sA n) (W : Wr h h' o (Jvm.RoadKit.slotOf Z "com/example/caddisfly/caddisfly/tableau/ConceptIndex" "concepts" "[I") (.ref r)) : Co Z h' o r sA n := ⟨F.1.wr W, F.2.1.same W, F.2.2.1.other W (Or.inr (slot_ne (Or.inl (hw _ (List.mem_of_getElem? (i := 13) rfl))) (Or.inl (hw _ (List.mem_of_getElem? (i := 11) rfl))) (by decide) (t := .array (.int)) (t' := .array (.int)) (by decide +kernel) (by decide +kernel))), F.2.2.2.other W (Or.inr (slot_ne (Or.inl (hw _ (List.mem_of_getElem? (i := 20) rfl))) (Or.inl (hw _ (List.mem_of_getElem? (i := 11) rfl))) (by decide) (t := .int) (t' := .array (.int)) (by decide +kernel) (by decide +kernel)))⟩
theorem Co.wslots (hw : ∀ d ∈ tables_1, d.before a0 Z = true) (r : Nat) (F : Co Z h o cA sA n) (W : Wr h h' o (Jvm.RoadKit.slotOf Z "com/example/caddisfly/caddisfly/tableau/ConceptIndex" "slots" "[I") (.ref r)) : Co Z h' o cA r n := ⟨F.1.wr W, F.2.1.other W (Or.inr (slot_ne (Or.inl (hw _ (List.mem_of_getElem? (i := 11) rfl))) (Or.inl (hw _ (List.mem_of_getElem? (i := 13) rfl))) (by decide) (t := .array (.int)) (t' := .array (.int)) (by decide +kernel) (by decide +kernel))), F.2.2.1.same W, F.2.2.2.other W (Or.inr (slot_ne (Or.inl (hw _ (List.mem_of_getElem? (i := 20) rfl))) (Or.inl (hw _ (List.mem_of_getElem? (i := 13) rfl))) (by decide) (t := .int) (t' := .array (.int)) (by decide +kernel) (by decide +kernel)))⟩
theorem Co.wsize (hw : ∀ d ∈ tables_1, d.before a0 Z = true) (k : Nat) (F : Co Z h o cA sA n) (W : Wr h h' o (Jvm.RoadKit.slotOf Z "com/example/caddisfly/caddisfly/tableau/ConceptIndex" "size" "I") (.int (Int32.ofNat k))) : Co Z h' o cA sA k := ⟨F.1.wr W, F.2.1.other W (Or.inr (slot_ne (Or.inl (hw _ (List.mem_of_getElem? (i := 11) rfl))) (Or.inl (hw _ (List.mem_of_getElem? (i := 20) rfl))) (by decide) (t := .array (.int)) (t' := .int) (by decide +kernel) (by decide +kernel))), F.2.2.1.other W (Or.inr (slot_ne (Or.inl (hw _ (List.mem_of_getElem? (i := 13) rfl))) (Or.inl (hw _ (List.mem_of_getElem? (i := 20) rfl))) (by decide) (t := .array (.int)) (t' := .int) (by decide +kernel) (by decide +kernel))), F.2.2.2.same W⟩
end OwnQ
theorem d7_0 : decode jdk_29_method_69_code 0 = .ok (.iload_n 0, 1) := by decide +kernel
theorem d7_1 : decode jdk_29_method_69_code 1 = .ok (.iload_n 1, 1) := by decide +kernel
theorem d7_2 : decode jdk_29_method_69_code 2 = .ok (.if_icmp .gt 7, 3) := by decide +kernel
theorem d7_5 : decode jdk_29_method_69_code 5 = .ok (.iload_n 0, 1) := by decide +kernel
theorem d7_6 : decode jdk_29_method_69_code 6 = .ok (.goto 4, 3) := by decide +kernel
theorem d7_9 : decode jdk_29_method_69_code 9 = .ok (.iload_n 1, 1) := by decide +kernel
theorem d7_10 : decode jdk_29_method_69_code 10 = .ok (.ireturn, 1) := by decide +kernel
theorem pn_7 : plainFor (⟨"java/lang/Math", "min", "(II)I"⟩ : MethodName) = true := by first | (exact plainFor_of_name (by first | (simp [plainName, overriddenIn, x]; done) | decide +kernel)) | decide +kernel
set_option maxRecDepth 65536 in
set_option maxHeartbeats 40000000 in
theorem rm7 (l : Launch) (Z : State) (a0 : Array Value) (hw : ∀ d ∈ tables_1, d.before a0 Z = true) (p1 p2 : Int32) (h0 : Heap) :
    OMet l Z (⟨"java/lang/Math", "min", "(II)I"⟩ : MethodName) jdk_29_method_69_code 2 (some (.int)) [] ({ frames := 0, cells := 0, slots := 0, locals := 0 } : Room) #[.int p1, .int p2] h0 (Pu (.int (own_min p1 p2)) h0) := by
  refine own_body (Ls := #[.val (.int p1), .val (.int p2)]) pn_7 (fun m => by first | (simp [entryFrame, mkF, argsToLocals, Value.category, maxLocals]; done) | rfl) ?_
  intro p e s m below meth c s₁ X0 hx hby hml hown hnm hret hlk hZ e0
  refine g_iloadN (n := 1) X0 hx (hb hby d7_0) rfl rfl ?_
  refine g_iloadN (n := 2) X0 hx (hb hby d7_1) rfl rfl ?_
  refine g_icmp (n := 9) (n' := 5) X0 hx _ (own_cgt _ _) (hb hby d7_2) (by decide) (by decide) rfl (fun hc1 => ?_) (fun hc1 => ?_)
  · refine g_iloadN (n := 10) X0 hx (hb hby d7_9) rfl rfl ?_
    refine g_retI X0 hx hret hlk (hb hby d7_10) (Fe.of (by decide) (by decide)) ?_
    try rw [e0]
    exact ⟨by simp [own_min, hc1], rfl, rfl⟩
  · refine g_iloadN (n := 6) X0 hx (hb hby d7_5) rfl rfl ?_
    refine g_goto (n := 10) X0 hx (hb hby d7_6) (by decide) (by decide) ?_
    refine g_retI X0 hx hret hlk (hb hby d7_10) (Fe.of (by decide) (by decide)) ?_
    try rw [e0]
    exact ⟨by simp [own_min, hc1], rfl, rfl⟩
theorem d5_0 : decode prog_82_method_8_code 0 = .ok (.iload_n 0, 1) := by decide +kernel
theorem d5_1 : decode prog_82_method_8_code 1 = .ok (.ldc 34, 2) := by decide +kernel
theorem d5_3 : decode prog_82_method_8_code 3 = .ok (.imul, 1) := by decide +kernel
theorem d5_4 : decode prog_82_method_8_code 4 = .ok (.istore_n 2, 1) := by decide +kernel
theorem d5_5 : decode prog_82_method_8_code 5 = .ok (.iload_n 2, 1) := by decide +kernel
theorem d5_6 : decode prog_82_method_8_code 6 = .ok (.iload_n 2, 1) := by decide +kernel
theorem d5_7 : decode prog_82_method_8_code 7 = .ok (.bipush 16, 2) := by decide +kernel
theorem d5_9 : decode prog_82_method_8_code 9 = .ok (.iushr, 1) := by decide +kernel
theorem d5_10 : decode prog_82_method_8_code 10 = .ok (.ixor, 1) := by decide +kernel
theorem d5_11 : decode prog_82_method_8_code 11 = .ok (.iload_n 1, 1) := by decide +kernel
theorem d5_12 : decode prog_82_method_8_code 12 = .ok (.iand, 1) := by decide +kernel
theorem d5_13 : decode prog_82_method_8_code 13 = .ok (.ireturn, 1) := by decide +kernel
theorem pn_5 : plainFor (⟨"com/example/caddisfly/caddisfly/tableau/ConceptIndex", "start", "(II)I"⟩ : MethodName) = true := by first | (exact plainFor_of_name (by first | (simp [plainName, overriddenIn, x]; done) | decide +kernel)) | decide +kernel
set_option maxRecDepth 65536 in
set_option maxHeartbeats 40000000 in
theorem rm5 (l : Launch) (Z : State) (a0 : Array Value) (hw : ∀ d ∈ tables_1, d.before a0 Z = true) (p1 p2 : Int32) (h0 : Heap) :
    OMet l Z (⟨"com/example/caddisfly/caddisfly/tableau/ConceptIndex", "start", "(II)I"⟩ : MethodName) prog_82_method_8_code 3 (some (.int)) [] ({ frames := 0, cells := 0, slots := 0, locals := 0 } : Room) #[.int p1, .int p2] h0 (Pu (.int (own_h p1 &&& p2)) h0) := by
  refine own_body (Ls := #[.val (.int p1), .val (.int p2), .unset]) pn_5 (fun m => by first | (simp [entryFrame, mkF, argsToLocals, Value.category, maxLocals]; done) | rfl) ?_
  intro p e s m below meth c s₁ X0 hx hby hml hown hnm hret hlk hZ e0
  refine g_iloadN (n := 1) X0 hx (hb hby d5_0) rfl rfl ?_
  refine g_ldcI (n := 3) X0 hx hZ hown (hw _ (List.mem_of_getElem? (i := 28) rfl)) (hb hby d5_1) rfl ?_
  refine g_imul (n := 4) X0 hx (hb hby d5_3) rfl ?_
  refine g_istoreN (n := 5) X0 hx (hb hby d5_4) rfl #[.val (.int p1), .val (.int p2), .val (.int (p1 * (-1640531527 : Int32)))] rfl ?_
  refine g_iloadN (n := 6) X0 hx (hb hby d5_5) rfl rfl ?_
  refine g_iloadN (n := 7) X0 hx (hb hby d5_6) rfl rfl ?_
  refine g_bipush (n := 9) X0 hx (16 : Int32) (hb hby d5_7) rfl rfl ?_
  refine g_iushr (n := 10) X0 hx (hb hby d5_9) rfl ?_
  refine g_ixor (n := 11) X0 hx (hb hby d5_10) rfl ?_
  refine g_iloadN (n := 12) X0 hx (hb hby d5_11) rfl rfl ?_
  refine g_iand (n := 13) X0 hx (hb hby d5_12) rfl ?_
  refine g_retI X0 hx hret hlk (hb hby d5_13) (Fe.of (by decide) (by decide)) ?_
  try rw [e0]
  exact ⟨rfl, rfl, rfl⟩
theorem d4_0 : decode prog_82_method_7_code 0 = .ok (.aload_n 0, 1) := by decide +kernel
theorem d4_1 : decode prog_82_method_7_code 1 = .ok (.getfield 13, 3) := by decide +kernel
theorem d4_4 : decode prog_82_method_7_code 4 = .ok (.arraylength, 1) := by decide +kernel
theorem d4_5 : decode prog_82_method_7_code 5 = .ok (.iconst 1, 1) := by decide +kernel
theorem d4_6 : decode prog_82_method_7_code 6 = .ok (.isub, 1) := by decide +kernel
theorem d4_7 : decode prog_82_method_7_code 7 = .ok (.istore_n 2, 1) := by decide +kernel
theorem d4_8 : decode prog_82_method_7_code 8 = .ok (.aload_n 0, 1) := by decide +kernel
theorem d4_9 : decode prog_82_method_7_code 9 = .ok (.getfield 7, 3) := by decide +kernel
theorem d4_12 : decode prog_82_method_7_code 12 = .ok (.iload_n 1, 1) := by decide +kernel
theorem d4_13 : decode prog_82_method_7_code 13 = .ok (.iaload, 1) := by decide +kernel
theorem d4_14 : decode prog_82_method_7_code 14 = .ok (.iload_n 2, 1) := by decide +kernel
theorem d4_15 : decode prog_82_method_7_code 15 = .ok (.invokestatic 20, 3) := by decide +kernel
theorem d4_18 : decode prog_82_method_7_code 18 = .ok (.istore_n 3, 1) := by decide +kernel
theorem d4_19 : decode prog_82_method_7_code 19 = .ok (.aload_n 0, 1) := by decide +kernel
theorem d4_20 : decode prog_82_method_7_code 20 = .ok (.getfield 13, 3) := by decide +kernel
theorem d4_23 : decode prog_82_method_7_code 23 = .ok (.iload_n 3, 1) := by decide +kernel
theorem d4_24 : decode prog_82_method_7_code 24 = .ok (.iaload, 1) := by decide +kernel
theorem d4_25 : decode prog_82_method_7_code 25 = .ok (.ifCond .eq 12, 3) := by decide +kernel
theorem d4_28 : decode prog_82_method_7_code 28 = .ok (.iload_n 3, 1) := by decide +kernel
theorem d4_29 : decode prog_82_method_7_code 29 = .ok (.iconst 1, 1) := by decide +kernel
theorem d4_30 : decode prog_82_method_7_code 30 = .ok (.iadd, 1) := by decide +kernel
theorem d4_31 : decode prog_82_method_7_code 31 = .ok (.iload_n 2, 1) := by decide +kernel
theorem d4_32 : decode prog_82_method_7_code 32 = .ok (.iand, 1) := by decide +kernel
theorem d4_33 : decode prog_82_method_7_code 33 = .ok (.istore_n 3, 1) := by decide +kernel
theorem d4_34 : decode prog_82_method_7_code 34 = .ok (.goto (-15), 3) := by decide +kernel
theorem d4_37 : decode prog_82_method_7_code 37 = .ok (.aload_n 0, 1) := by decide +kernel
theorem d4_38 : decode prog_82_method_7_code 38 = .ok (.getfield 13, 3) := by decide +kernel
theorem d4_41 : decode prog_82_method_7_code 41 = .ok (.iload_n 3, 1) := by decide +kernel
theorem d4_42 : decode prog_82_method_7_code 42 = .ok (.iload_n 1, 1) := by decide +kernel
theorem d4_43 : decode prog_82_method_7_code 43 = .ok (.iconst 1, 1) := by decide +kernel
theorem d4_44 : decode prog_82_method_7_code 44 = .ok (.iadd, 1) := by decide +kernel
theorem d4_45 : decode prog_82_method_7_code 45 = .ok (.iastore, 1) := by decide +kernel
theorem d4_46 : decode prog_82_method_7_code 46 = .ok (.return_, 1) := by decide +kernel
theorem pn_4 : plainFor (⟨"com/example/caddisfly/caddisfly/tableau/ConceptIndex", "place", "(I)V"⟩ : MethodName) = true := by first | (exact plainFor_of_name (by first | (simp [plainName, overriddenIn, x]; done) | decide +kernel)) | decide +kernel
set_option maxRecDepth 65536 in
set_option maxHeartbeats 40000000 in
theorem rm4 (l : Launch) (Z : State) (a0 : Array Value) (hw : ∀ d ∈ tables_1, d.before a0 Z = true) (o cA sA : Nat) (n cc sl i j n0 : Nat) (κ : Nat → Int32) (Ls : List Nat) (h0 : Heap) (C : Co Z h0 o cA sA n) (A : Av Z h0 cA .int cc (fun xx => .int (κ xx))) (S : Av Z h0 sA .int sl (fun xx => .int (Int32.ofNat ((Ls).getD xx 0)))) (hi : i < cc) (hi8 : i < 8) (hsl : sl = 2 ∨ sl = 4 ∨ sl = 8) (hLl : Ls.length = sl) (hb8 : ∀ x, Ls.getD x 0 ≤ 8) (hf : own_find Ls sl 0 8 (own_z (κ i) % sl) = some j) (gs : n0 ≤ sA) :
    OMet l Z (⟨"com/example/caddisfly/caddisfly/tableau/ConceptIndex", "place", "(I)V"⟩ : MethodName) prog_82_method_7_code 4 none [] ({ frames := 1, cells := 0, slots := 0, locals := 14 } : Room) #[.ref o, .int (Int32.ofNat i)] h0 (fun v h L => v = none ∧ Fr n0 L ∧ Keep h0 h [sA] ∧ Av Z h sA .int sl (fun xx => .int (Int32.ofNat ((Ls.set j (i + 1)).getD xx 0)))) := by
  refine own_body (Ls := #[.val (.ref o), .val (.int (Int32.ofNat i)), .unset, .unset]) pn_4 (fun m => by first | (simp [entryFrame, mkF, argsToLocals, Value.category, maxLocals]; done) | rfl) ?_
  intro p e s m below meth c s₁ X0 hx hby hml hown hnm hret hlk hZ e0
  have hs0 : 0 < sl := by omega
  have hjl := own_find_lt _ _ _ hs0 _ _ _ (Nat.mod_lt _ hs0) hf
  have loop : ∀ (f q : Nat), q < sl → own_find Ls sl 0 f q = some j → ∀ T, Stand p l e ({ frames := 1, cells := 0, slots := 0, locals := 14 } : Room) s m #[.ref o, .int (Int32.ofNat i)] below meth c T [] 0 0 → T.heap = h0 → Go p e below (Fe s ({ frames := 1, cells := 0, slots := 0, locals := 14 } : Room).cells ({ frames := 1, cells := 0, slots := 0, locals := 14 } : Room).slots) (fun v h L => v = none ∧ Fr n0 L ∧ Keep h0 h [sA] ∧ Av Z h sA .int sl (fun xx => .int (Int32.ofNat ((Ls.set j (i + 1)).getD xx 0)))) T (mkF m 19 #[.val (.ref o), .val (.int (Int32.ofNat i)), .val (.int (Int32.ofNat sl - (1 : Int32))), .val (.int (Int32.ofNat q))] []) := by
    intro f; induction f with
    | zero => intro q hq hz; cases hz
    | succ f ih =>
      intro q hq hz T X e1
      unfold own_find at hz
      have hbq := hb8 q
      refine g_aloadN (n := 20) X hx (hb hby d4_19) rfl rfl rfl ?_
      refine g_getF (n := 23) X hx hZ hown (hw _ (List.mem_of_getElem? (i := 12) rfl)) e1 C.2.2.1 (hb hby d4_20) rfl ?_
      intro T11 X11 e11
      refine g_iloadN (n := 24) X11 hx (hb hby d4_23) rfl rfl ?_
      refine g_iaload (n := 25) X11 hx hZ e11 S q rfl hq (.int (Int32.ofNat (Ls.getD q 0))) rfl (hb hby d4_24) rfl ?_
      refine g_if (n := 37) (n' := 28) X11 hx _ (own_zeq _) (hb hby d4_25) (by decide) (by decide) rfl (fun hc => ?_) (fun hc => ?_)
      · have h0q : Ls.getD q 0 = 0 := (own_eq (n := 0) (by omega) (by omega)).mp hc
        rw [if_pos h0q] at hz
        have hqj : j = q := (Option.some.inj hz).symm
        refine g_aloadN (n := 38) X11 hx (hb hby d4_37) rfl rfl rfl ?_
        refine g_getF (n := 41) X11 hx hZ hown (hw _ (List.mem_of_getElem? (i := 12) rfl)) e11 C.2.2.1 (hb hby d4_38) rfl ?_
        intro T12 X12 e12
        refine g_iloadN (n := 42) X12 hx (hb hby d4_41) rfl rfl ?_
        refine g_iloadN (n := 43) X12 hx (hb hby d4_42) rfl rfl ?_
        refine g_iconst (n := 44) X12 hx (1 : Int32) (hb hby d4_43) rfl rfl ?_
        refine g_iadd (n := 45) X12 hx (hb hby d4_44) rfl ?_
        rw [own_add1]
        refine g_iastore (n := 46) X12 hx hZ e12 S q rfl hq (hb hby d4_45) rfl ?_
        intro T13 h13 X13 e13 W13 A13
        refine g_retV X13 hx hret hlk (hb hby d4_46) (Fe.of (by decide) (by decide)) ?_
        try rw [e13]
        exact ⟨rfl, Fr.snoc X13 (Fr.nil n0) gs, (Keep.refl _ _).wr W13 (Or.inl (by simp)), A13.congr (fun x hx => by
          rw [own_getset _ _ _ _ (by omega), hqj]
          by_cases qq : x = q
          · rw [if_pos qq, if_pos qq]
          · rw [if_neg qq, if_neg qq])⟩
      · have h0q : ¬ Ls.getD q 0 = 0 := fun z => hc ((own_eq (n := 0) (by omega) (by omega)).mpr z)
        rw [if_neg h0q] at hz
        refine g_iloadN (n := 29) X11 hx (hb hby d4_28) rfl rfl ?_
        refine g_iconst (n := 30) X11 hx (1 : Int32) (hb hby d4_29) rfl rfl ?_
        refine g_iadd (n := 31) X11 hx (hb hby d4_30) rfl ?_
        refine g_iloadN (n := 32) X11 hx (hb hby d4_31) rfl rfl ?_
        refine g_iand (n := 33) X11 hx (hb hby d4_32) rfl ?_
        rw [own_next q sl hsl hq]
        refine g_istoreN (n := 34) X11 hx (hb hby d4_33) rfl #[.val (.ref o), .val (.int (Int32.ofNat i)), .val (.int (Int32.ofNat sl - (1 : Int32))), .val (.int (Int32.ofNat ((q + 1) % sl)))] rfl ?_
        refine g_goto (n := 19) X11 hx (hb hby d4_34) (by decide) (by decide) ?_
        exact ih _ (Nat.mod_lt _ hs0) hz _ X11 e11
  refine g_aloadN (n := 1) X0 hx (hb hby d4_0) rfl rfl rfl ?_
  refine g_getF (n := 4) X0 hx hZ hown (hw _ (List.mem_of_getElem? (i := 12) rfl)) e0 C.2.2.1 (hb hby d4_1) rfl ?_
  intro T14 X14 e14
  refine g_len (n := 5) X14 hx hZ e14 S (hb hby d4_4) rfl ?_
  refine g_iconst (n := 6) X14 hx (1 : Int32) (hb hby d4_5) rfl rfl ?_
  refine g_isub (n := 7) X14 hx (hb hby d4_6) rfl ?_
  refine g_istoreN (n := 8) X14 hx (hb hby d4_7) rfl #[.val (.ref o), .val (.int (Int32.ofNat i)), .val (.int ((Int32.ofNat sl) - (1 : Int32))), .unset] rfl ?_
  refine g_aloadN (n := 9) X14 hx (hb hby d4_8) rfl rfl rfl ?_
  refine g_getF (n := 12) X14 hx hZ hown (hw _ (List.mem_of_getElem? (i := 10) rfl)) e14 C.2.1 (hb hby d4_9) rfl ?_
  intro T15 X15 e15
  refine g_iloadN (n := 13) X15 hx (hb hby d4_12) rfl rfl ?_
  refine g_iaload (n := 14) X15 hx hZ e15 A i rfl hi (.int (κ i)) rfl (hb hby d4_13) rfl ?_
  refine g_iloadN (n := 15) X15 hx (hb hby d4_14) rfl rfl ?_
  refine g_callSP (n := 18) (st := []) X15 hx hZ hown e15 (hw _ (List.mem_of_getElem? (i := 25) rfl)) (hw _ (List.mem_of_getElem? (i := 26) rfl)) (hw _ (List.mem_of_getElem? (i := 2) rfl)) (hw _ (List.mem_of_getElem? (i := 27) rfl)) (by decide) [.int (κ i), .int (Int32.ofNat sl - (1 : Int32))] (rm5 l Z a0 hw (κ i) (Int32.ofNat sl - (1 : Int32)) h0) pd_0 rfl (hb hby d4_15) rfl (by rw [hml]; rfl) (by decide) 0 (Nat.le_of_eq rfl) (by decide) (by decide) (by decide) ?_
  intro T16 X16 e16
  rw [own_start (κ i) sl hsl]
  refine g_istoreN (n := 19) X16 hx (hb hby d4_18) rfl #[.val (.ref o), .val (.int (Int32.ofNat i)), .val (.int ((Int32.ofNat sl) - (1 : Int32))), .val (.int (Int32.ofNat (own_z (κ i) % sl)))] rfl ?_
  exact loop 8 _ (Nat.mod_lt _ hs0) hf _ X16 e16
theorem d10_0 : decode prog_82_method_4_code 0 = .ok (.aload_n 0, 1) := by decide +kernel
theorem d10_1 : decode prog_82_method_4_code 1 = .ok (.getfield 13, 3) := by decide +kernel
theorem d10_4 : decode prog_82_method_4_code 4 = .ok (.arraylength, 1) := by decide +kernel
theorem d10_5 : decode prog_82_method_4_code 5 = .ok (.iconst 1, 1) := by decide +kernel
theorem d10_6 : decode prog_82_method_4_code 6 = .ok (.isub, 1) := by decide +kernel
theorem d10_7 : decode prog_82_method_4_code 7 = .ok (.istore_n 2, 1) := by decide +kernel
theorem d10_8 : decode prog_82_method_4_code 8 = .ok (.iload_n 1, 1) := by decide +kernel
theorem d10_9 : decode prog_82_method_4_code 9 = .ok (.iload_n 2, 1) := by decide +kernel
theorem d10_10 : decode prog_82_method_4_code 10 = .ok (.invokestatic 20, 3) := by decide +kernel
theorem d10_13 : decode prog_82_method_4_code 13 = .ok (.istore_n 3, 1) := by decide +kernel
theorem d10_14 : decode prog_82_method_4_code 14 = .ok (.aload_n 0, 1) := by decide +kernel
theorem d10_15 : decode prog_82_method_4_code 15 = .ok (.getfield 13, 3) := by decide +kernel
theorem d10_18 : decode prog_82_method_4_code 18 = .ok (.iload_n 3, 1) := by decide +kernel
theorem d10_19 : decode prog_82_method_4_code 19 = .ok (.iaload, 1) := by decide +kernel
theorem d10_20 : decode prog_82_method_4_code 20 = .ok (.ifCond .eq 36, 3) := by decide +kernel
theorem d10_23 : decode prog_82_method_4_code 23 = .ok (.aload_n 0, 1) := by decide +kernel
theorem d10_24 : decode prog_82_method_4_code 24 = .ok (.getfield 13, 3) := by decide +kernel
theorem d10_27 : decode prog_82_method_4_code 27 = .ok (.iload_n 3, 1) := by decide +kernel
theorem d10_28 : decode prog_82_method_4_code 28 = .ok (.iaload, 1) := by decide +kernel
theorem d10_29 : decode prog_82_method_4_code 29 = .ok (.iconst 1, 1) := by decide +kernel
theorem d10_30 : decode prog_82_method_4_code 30 = .ok (.isub, 1) := by decide +kernel
theorem d10_31 : decode prog_82_method_4_code 31 = .ok (.istore 4, 2) := by decide +kernel
theorem d10_33 : decode prog_82_method_4_code 33 = .ok (.aload_n 0, 1) := by decide +kernel
theorem d10_34 : decode prog_82_method_4_code 34 = .ok (.getfield 7, 3) := by decide +kernel
theorem d10_37 : decode prog_82_method_4_code 37 = .ok (.iload 4, 2) := by decide +kernel
theorem d10_39 : decode prog_82_method_4_code 39 = .ok (.iaload, 1) := by decide +kernel
theorem d10_40 : decode prog_82_method_4_code 40 = .ok (.iload_n 1, 1) := by decide +kernel
theorem d10_41 : decode prog_82_method_4_code 41 = .ok (.if_icmp .ne 6, 3) := by decide +kernel
theorem d10_44 : decode prog_82_method_4_code 44 = .ok (.iload 4, 2) := by decide +kernel
theorem d10_46 : decode prog_82_method_4_code 46 = .ok (.ireturn, 1) := by decide +kernel
theorem d10_47 : decode prog_82_method_4_code 47 = .ok (.iload_n 3, 1) := by decide +kernel
theorem d10_48 : decode prog_82_method_4_code 48 = .ok (.iconst 1, 1) := by decide +kernel
theorem d10_49 : decode prog_82_method_4_code 49 = .ok (.iadd, 1) := by decide +kernel
theorem d10_50 : decode prog_82_method_4_code 50 = .ok (.iload_n 2, 1) := by decide +kernel
theorem d10_51 : decode prog_82_method_4_code 51 = .ok (.iand, 1) := by decide +kernel
theorem d10_52 : decode prog_82_method_4_code 52 = .ok (.istore_n 3, 1) := by decide +kernel
theorem d10_53 : decode prog_82_method_4_code 53 = .ok (.goto (-39), 3) := by decide +kernel
theorem d10_56 : decode prog_82_method_4_code 56 = .ok (.iconst (-1), 1) := by decide +kernel
theorem d10_57 : decode prog_82_method_4_code 57 = .ok (.ireturn, 1) := by decide +kernel
theorem pn_10 : plainFor (⟨"com/example/caddisfly/caddisfly/tableau/ConceptIndex", "indexOf", "(I)I"⟩ : MethodName) = true := by first | (exact plainFor_of_name (by first | (simp [plainName, overriddenIn, x]; done) | decide +kernel)) | decide +kernel
set_option maxRecDepth 65536 in
set_option maxHeartbeats 40000000 in
theorem rm10 (l : Launch) (Z : State) (a0 : Array Value) (hw : ∀ d ∈ tables_1, d.before a0 Z = true) (o cA sA : Nat) (p1 : Int32) (n cc sl pos ee : Nat) (r : Option Nat) (κ : Nat → Int32) (Ls : List Nat) (h0 : Heap) (C : Co Z h0 o cA sA n) (A : Av Z h0 cA .int cc (fun xx => .int (κ xx))) (S : Av Z h0 sA .int sl (fun xx => .int (Int32.ofNat ((Ls).getD xx 0)))) (hec : ee ≤ cc) (he3 : ee ≤ 3) (hsl : sl = 2 ∨ sl = 4 ∨ sl = 8) (hbe : ∀ x, Ls.getD x 0 ≤ ee) (hk : ∀ i, i < ee → (κ i = p1 ↔ i = pos)) (hf : own_look Ls sl pos 8 (own_z p1 % sl) = some r) :
    OMet l Z (⟨"com/example/caddisfly/caddisfly/tableau/ConceptIndex", "indexOf", "(I)I"⟩ : MethodName) prog_82_method_4_code 5 (some (.int)) [] ({ frames := 1, cells := 0, slots := 0, locals := 14 } : Room) #[.ref o, .int p1] h0 (Pu (.int (own_res r)) h0) := by
  refine own_body (Ls := #[.val (.ref o), .val (.int p1), .unset, .unset, .unset]) pn_10 (fun m => by first | (simp [entryFrame, mkF, argsToLocals, Value.category, maxLocals]; done) | rfl) ?_
  intro p e s m below meth c s₁ X0 hx hby hml hown hnm hret hlk hZ e0
  have hs0 : 0 < sl := by omega
  have loop : ∀ (f q : Nat) (s4 : Slot), (s4 = .unset ∨ ∃ w4 : Int32, s4 = .val (.int w4)) → q < sl → own_look Ls sl pos f q = some r → ∀ T, Stand p l e ({ frames := 1, cells := 0, slots := 0, locals := 14 } : Room) s m #[.ref o, .int p1] below meth c T [] 0 0 → T.heap = h0 → Go p e below (Fe s ({ frames := 1, cells := 0, slots := 0, locals := 14 } : Room).cells ({ frames := 1, cells := 0, slots := 0, locals := 14 } : Room).slots) (Pu (.int (own_res r)) h0) T (mkF m 14 #[.val (.ref o), .val (.int p1), .val (.int (Int32.ofNat sl - (1 : Int32))), .val (.int (Int32.ofNat q)), s4] []) := by
    intro f; induction f with
    | zero => intro q s4 h4 hq hz; cases hz
    | succ f ih =>
      intro q s4 h4 hq hz T X e1
      unfold own_look at hz
      have hbq := hbe q
      refine g_aloadN (n := 15) X hx (hb hby d10_14) rfl rfl rfl ?_
      refine g_getF (n := 18) X hx hZ hown (hw _ (List.mem_of_getElem? (i := 12) rfl)) e1 C.2.2.1 (hb hby d10_15) rfl ?_
      intro T11 X11 e11
      refine g_iloadN (n := 19) X11 hx (hb hby d10_18) rfl rfl ?_
      refine g_iaload (n := 20) X11 hx hZ e11 S q rfl hq (.int (Int32.ofNat (Ls.getD q 0))) rfl (hb hby d10_19) rfl ?_
      refine g_if (n := 56) (n' := 23) X11 hx _ (own_zeq _) (hb hby d10_20) (by decide) (by decide) rfl (fun hc => ?_) (fun hc => ?_)
      · have h0q : Ls.getD q 0 = 0 := (own_eq (n := 0) (by omega) (by omega)).mp hc
        rw [if_pos h0q] at hz
        cases hz
        refine g_iconst (n := 57) X11 hx (-1 : Int32) (hb hby d10_56) rfl rfl ?_
        refine g_retI X11 hx hret hlk (hb hby d10_57) (Fe.of (by decide) (by decide)) ?_
        try rw [e11]
        exact ⟨rfl, rfl, rfl⟩
      · have h0q : ¬ Ls.getD q 0 = 0 := fun z => hc ((own_eq (n := 0) (by omega) (by omega)).mpr z)
        rw [if_neg h0q] at hz
        refine g_aloadN (n := 24) X11 hx (hb hby d10_23) rfl rfl rfl ?_
        refine g_getF (n := 27) X11 hx hZ hown (hw _ (List.mem_of_getElem? (i := 12) rfl)) e11 C.2.2.1 (hb hby d10_24) rfl ?_
        intro T12 X12 e12
        refine g_iloadN (n := 28) X12 hx (hb hby d10_27) rfl rfl ?_
        refine g_iaload (n := 29) X12 hx hZ e12 S q rfl hq (.int (Int32.ofNat (Ls.getD q 0))) rfl (hb hby d10_28) rfl ?_
        refine g_iconst (n := 30) X12 hx (1 : Int32) (hb hby d10_29) rfl rfl ?_
        refine g_isub (n := 31) X12 hx (hb hby d10_30) rfl ?_
        rw [show Int32.ofNat (Ls.getD q 0) - (1 : Int32) = Int32.ofNat (Ls.getD q 0 - 1) from own_sub _ 1 (by omega)]
        refine g_istore (n := 33) X12 hx (hb hby d10_31) rfl #[.val (.ref o), .val (.int p1), .val (.int (Int32.ofNat sl - (1 : Int32))), .val (.int (Int32.ofNat q)), .val (.int (Int32.ofNat (Ls.getD q 0 - 1)))] (by rcases h4 with rfl | ⟨w4, rfl⟩ <;> rfl) ?_
        refine g_aloadN (n := 34) X12 hx (hb hby d10_33) rfl rfl rfl ?_
        refine g_getF (n := 37) X12 hx hZ hown (hw _ (List.mem_of_getElem? (i := 10) rfl)) e12 C.2.1 (hb hby d10_34) rfl ?_
        intro T13 X13 e13
        refine g_iload (n := 39) X13 hx (hb hby d10_37) rfl rfl ?_
        refine g_iaload (n := 40) X13 hx hZ e13 A (Ls.getD q 0 - 1) rfl (by omega) (.int (κ (Ls.getD q 0 - 1))) rfl (hb hby d10_39) rfl ?_
        refine g_iloadN (n := 41) X13 hx (hb hby d10_40) rfl rfl ?_
        have hkq := hk (Ls.getD q 0 - 1) (by omega)
        refine g_icmp (n := 47) (n' := 44) X13 hx _ (own_cne _ _) (hb hby d10_41) (by decide) (by decide) rfl (fun hc2 => ?_) (fun hc2 => ?_)
        · rw [if_neg (fun z => hc2 (hkq.mpr z))] at hz
          refine g_iloadN (n := 48) X13 hx (hb hby d10_47) rfl rfl ?_
          refine g_iconst (n := 49) X13 hx (1 : Int32) (hb hby d10_48) rfl rfl ?_
          refine g_iadd (n := 50) X13 hx (hb hby d10_49) rfl ?_
          refine g_iloadN (n := 51) X13 hx (hb hby d10_50) rfl rfl ?_
          refine g_iand (n := 52) X13 hx (hb hby d10_51) rfl ?_
          rw [own_next q sl hsl hq]
          refine g_istoreN (n := 53) X13 hx (hb hby d10_52) rfl #[.val (.ref o), .val (.int p1), .val (.int (Int32.ofNat sl - (1 : Int32))), .val (.int (Int32.ofNat ((q + 1) % sl))), .val (.int (Int32.ofNat (Ls.getD q 0 - 1)))] rfl ?_
          refine g_goto (n := 14) X13 hx (hb hby d10_53) (by decide) (by decide) ?_
          exact ih _ _ (Or.inr ⟨_, rfl⟩) (Nat.mod_lt _ hs0) hz _ X13 e13
        · have hpq := hkq.mp (Classical.not_not.mp hc2)
          rw [if_pos hpq] at hz
          cases hz
          refine g_iload (n := 46) X13 hx (hb hby d10_44) rfl rfl ?_
          refine g_retI X13 hx hret hlk (hb hby d10_46) (Fe.of (by decide) (by decide)) ?_
          try rw [e13]
          exact ⟨by rw [hpq]; rfl, rfl, rfl⟩
  refine g_aloadN (n := 1) X0 hx (hb hby d10_0) rfl rfl rfl ?_
  refine g_getF (n := 4) X0 hx hZ hown (hw _ (List.mem_of_getElem? (i := 12) rfl)) e0 C.2.2.1 (hb hby d10_1) rfl ?_
  intro T14 X14 e14
  refine g_len (n := 5) X14 hx hZ e14 S (hb hby d10_4) rfl ?_
  refine g_iconst (n := 6) X14 hx (1 : Int32) (hb hby d10_5) rfl rfl ?_
  refine g_isub (n := 7) X14 hx (hb hby d10_6) rfl ?_
  refine g_istoreN (n := 8) X14 hx (hb hby d10_7) rfl #[.val (.ref o), .val (.int p1), .val (.int ((Int32.ofNat sl) - (1 : Int32))), .unset, .unset] rfl ?_
  refine g_iloadN (n := 9) X14 hx (hb hby d10_8) rfl rfl ?_
  refine g_iloadN (n := 10) X14 hx (hb hby d10_9) rfl rfl ?_
  refine g_callSP (n := 13) (st := []) X14 hx hZ hown e14 (hw _ (List.mem_of_getElem? (i := 25) rfl)) (hw _ (List.mem_of_getElem? (i := 26) rfl)) (hw _ (List.mem_of_getElem? (i := 2) rfl)) (hw _ (List.mem_of_getElem? (i := 27) rfl)) (by decide) [.int p1, .int (Int32.ofNat sl - (1 : Int32))] (rm5 l Z a0 hw p1 (Int32.ofNat sl - (1 : Int32)) h0) pd_0 rfl (hb hby d10_10) rfl (by rw [hml]; rfl) (by decide) 0 (Nat.le_of_eq rfl) (by decide) (by decide) (by decide) ?_
  intro T15 X15 e15
  rw [own_start p1 sl hsl]
  refine g_istoreN (n := 14) X15 hx (hb hby d10_13) rfl #[.val (.ref o), .val (.int p1), .val (.int ((Int32.ofNat sl) - (1 : Int32))), .val (.int (Int32.ofNat (own_z p1 % sl))), .unset] rfl ?_
  exact loop 8 _ .unset (Or.inl rfl) (Nat.mod_lt _ hs0) hf _ X15 e15
theorem d9_0 : decode prog_82_method_2_code 0 = .ok (.aload_n 0, 1) := by decide +kernel
theorem d9_1 : decode prog_82_method_2_code 1 = .ok (.getfield 16, 3) := by decide +kernel
theorem d9_4 : decode prog_82_method_2_code 4 = .ok (.ireturn, 1) := by decide +kernel
theorem pn_9 : plainFor (⟨"com/example/caddisfly/caddisfly/tableau/ConceptIndex", "size", "()I"⟩ : MethodName) = true := by first | (exact plainFor_of_name (by first | (simp [plainName, overriddenIn, x]; done) | decide +kernel)) | decide +kernel
set_option maxRecDepth 65536 in
set_option maxHeartbeats 40000000 in
theorem rm9 (l : Launch) (Z : State) (a0 : Array Value) (hw : ∀ d ∈ tables_1, d.before a0 Z = true) (o cA sA : Nat) (n : Nat) (h0 : Heap) (C : Co Z h0 o cA sA n) :
    OMet l Z (⟨"com/example/caddisfly/caddisfly/tableau/ConceptIndex", "size", "()I"⟩ : MethodName) prog_82_method_2_code 1 (some (.int)) [] ({ frames := 0, cells := 0, slots := 0, locals := 0 } : Room) #[.ref o] h0 (Pu (.int (Int32.ofNat n)) h0) := by
  refine own_body (Ls := #[.val (.ref o)]) pn_9 (fun m => by first | (simp [entryFrame, mkF, argsToLocals, Value.category, maxLocals]; done) | rfl) ?_
  intro p e s m below meth c s₁ X0 hx hby hml hown hnm hret hlk hZ e0
  refine g_aloadN (n := 1) X0 hx (hb hby d9_0) rfl rfl rfl ?_
  refine g_getF (n := 4) X0 hx hZ hown (hw _ (List.mem_of_getElem? (i := 19) rfl)) e0 C.2.2.2 (hb hby d9_1) rfl ?_
  intro T11 X11 e11
  refine g_retI X11 hx hret hlk (hb hby d9_4) (Fe.of (by decide) (by decide)) ?_
  try rw [e11]
  exact ⟨rfl, rfl, rfl⟩
theorem d8_0 : decode prog_82_method_6_code 0 = .ok (.aload_n 0, 1) := by decide +kernel
theorem d8_1 : decode prog_82_method_6_code 1 = .ok (.getfield 13, 3) := by decide +kernel
theorem d8_4 : decode prog_82_method_6_code 4 = .ok (.arraylength, 1) := by decide +kernel
theorem d8_5 : decode prog_82_method_6_code 5 = .ok (.iconst 1, 1) := by decide +kernel
theorem d8_6 : decode prog_82_method_6_code 6 = .ok (.isub, 1) := by decide +kernel
theorem d8_7 : decode prog_82_method_6_code 7 = .ok (.istore_n 2, 1) := by decide +kernel
theorem d8_8 : decode prog_82_method_6_code 8 = .ok (.aload_n 0, 1) := by decide +kernel
theorem d8_9 : decode prog_82_method_6_code 9 = .ok (.getfield 16, 3) := by decide +kernel
theorem d8_12 : decode prog_82_method_6_code 12 = .ok (.iload_n 1, 1) := by decide +kernel
theorem d8_13 : decode prog_82_method_6_code 13 = .ok (.if_icmp .le 61, 3) := by decide +kernel
theorem d8_16 : decode prog_82_method_6_code 16 = .ok (.aload_n 0, 1) := by decide +kernel
theorem d8_17 : decode prog_82_method_6_code 17 = .ok (.dup, 1) := by decide +kernel
theorem d8_18 : decode prog_82_method_6_code 18 = .ok (.getfield 16, 3) := by decide +kernel
theorem d8_21 : decode prog_82_method_6_code 21 = .ok (.iconst 1, 1) := by decide +kernel
theorem d8_22 : decode prog_82_method_6_code 22 = .ok (.isub, 1) := by decide +kernel
theorem d8_23 : decode prog_82_method_6_code 23 = .ok (.putfield 16, 3) := by decide +kernel
theorem d8_26 : decode prog_82_method_6_code 26 = .ok (.aload_n 0, 1) := by decide +kernel
theorem d8_27 : decode prog_82_method_6_code 27 = .ok (.getfield 7, 3) := by decide +kernel
theorem d8_30 : decode prog_82_method_6_code 30 = .ok (.aload_n 0, 1) := by decide +kernel
theorem d8_31 : decode prog_82_method_6_code 31 = .ok (.getfield 16, 3) := by decide +kernel
theorem d8_34 : decode prog_82_method_6_code 34 = .ok (.iaload, 1) := by decide +kernel
theorem d8_35 : decode prog_82_method_6_code 35 = .ok (.iload_n 2, 1) := by decide +kernel
theorem d8_36 : decode prog_82_method_6_code 36 = .ok (.invokestatic 20, 3) := by decide +kernel
theorem d8_39 : decode prog_82_method_6_code 39 = .ok (.istore_n 3, 1) := by decide +kernel
theorem d8_40 : decode prog_82_method_6_code 40 = .ok (.aload_n 0, 1) := by decide +kernel
theorem d8_41 : decode prog_82_method_6_code 41 = .ok (.getfield 13, 3) := by decide +kernel
theorem d8_44 : decode prog_82_method_6_code 44 = .ok (.iload_n 3, 1) := by decide +kernel
theorem d8_45 : decode prog_82_method_6_code 45 = .ok (.iaload, 1) := by decide +kernel
theorem d8_46 : decode prog_82_method_6_code 46 = .ok (.aload_n 0, 1) := by decide +kernel
theorem d8_47 : decode prog_82_method_6_code 47 = .ok (.getfield 16, 3) := by decide +kernel
theorem d8_50 : decode prog_82_method_6_code 50 = .ok (.iconst 1, 1) := by decide +kernel
theorem d8_51 : decode prog_82_method_6_code 51 = .ok (.iadd, 1) := by decide +kernel
theorem d8_52 : decode prog_82_method_6_code 52 = .ok (.if_icmp .eq 12, 3) := by decide +kernel
theorem d8_55 : decode prog_82_method_6_code 55 = .ok (.iload_n 3, 1) := by decide +kernel
theorem d8_56 : decode prog_82_method_6_code 56 = .ok (.iconst 1, 1) := by decide +kernel
theorem d8_57 : decode prog_82_method_6_code 57 = .ok (.iadd, 1) := by decide +kernel
theorem d8_58 : decode prog_82_method_6_code 58 = .ok (.iload_n 2, 1) := by decide +kernel
theorem d8_59 : decode prog_82_method_6_code 59 = .ok (.iand, 1) := by decide +kernel
theorem d8_60 : decode prog_82_method_6_code 60 = .ok (.istore_n 3, 1) := by decide +kernel
theorem d8_61 : decode prog_82_method_6_code 61 = .ok (.goto (-21), 3) := by decide +kernel
theorem d8_64 : decode prog_82_method_6_code 64 = .ok (.aload_n 0, 1) := by decide +kernel
theorem d8_65 : decode prog_82_method_6_code 65 = .ok (.getfield 13, 3) := by decide +kernel
theorem d8_68 : decode prog_82_method_6_code 68 = .ok (.iload_n 3, 1) := by decide +kernel
theorem d8_69 : decode prog_82_method_6_code 69 = .ok (.iconst 0, 1) := by decide +kernel
theorem d8_70 : decode prog_82_method_6_code 70 = .ok (.iastore, 1) := by decide +kernel
theorem d8_71 : decode prog_82_method_6_code 71 = .ok (.goto (-63), 3) := by decide +kernel
theorem d8_74 : decode prog_82_method_6_code 74 = .ok (.return_, 1) := by decide +kernel
theorem pn_8 : plainFor (⟨"com/example/caddisfly/caddisfly/tableau/ConceptIndex", "truncate", "(I)V"⟩ : MethodName) = true := by first | (exact plainFor_of_name (by first | (simp [plainName, overriddenIn, x]; done) | decide +kernel)) | decide +kernel
set_option maxRecDepth 65536 in
set_option maxHeartbeats 40000000 in
theorem rm8 (l : Launch) (Z : State) (a0 : Array Value) (hw : ∀ d ∈ tables_1, d.before a0 Z = true) (o cA sA : Nat) (n cc sl tt n0 : Nat) (κ : Nat → Int32) (zs : Nat → Nat) (h0 : Heap) (C : Co Z h0 o cA sA n) (A : Av Z h0 cA .int cc (fun xx => .int (κ xx))) (S : Av Z h0 sA .int sl (fun xx => .int (Int32.ofNat ((own_P zs sl n).getD xx 0)))) (hnc : n ≤ cc) (hn3 : n ≤ 3) (ht : tt ≤ 7) (hsl : sl = 2 ∨ sl = 4 ∨ sl = 8) (hlen : ∀ k, k ≤ n → (own_P zs sl k).length = sl ∧ ∀ x, (own_P zs sl k).getD x 0 ≤ k) (hcut : ∀ k, k < n → ∃ j, own_find (own_P zs sl (k + 1)) sl (k + 1) 8 (zs k % sl) = some j ∧ (own_P zs sl (k + 1)).set j 0 = own_P zs sl k) (hz : ∀ k, k < n → own_z (κ k) = zs k) (hco : cA ≠ o) (hso : sA ≠ o) (hcs : cA ≠ sA) (go : n0 ≤ o) (gs : n0 ≤ sA) :
    OMet l Z (⟨"com/example/caddisfly/caddisfly/tableau/ConceptIndex", "truncate", "(I)V"⟩ : MethodName) prog_82_method_6_code 4 none [] ({ frames := 1, cells := 0, slots := 0, locals := 14 } : Room) #[.ref o, .int (Int32.ofNat tt)] h0 (fun v h L => v = none ∧ Fr n0 L ∧ Keep h0 h [o, sA] ∧ Co Z h o cA sA (min n tt) ∧ Av Z h cA .int cc (fun xx => .int (κ xx)) ∧ Av Z h sA .int sl (fun xx => .int (Int32.ofNat ((own_P zs sl (min n tt)).getD xx 0)))) := by
  refine own_body (Ls := #[.val (.ref o), .val (.int (Int32.ofNat tt)), .unset, .unset]) pn_8 (fun m => by first | (simp [entryFrame, mkF, argsToLocals, Value.category, maxLocals]; done) | rfl) ?_
  intro p e s m below meth c s₁ X0 hx hby hml hown hnm hret hlk hZ e0
  have hs0 : 0 < sl := by omega
  have outer : ∀ (k : Nat), k ≤ n → ∀ (s3 : Slot) (T : State) (h : Heap) (L : List Loc), (s3 = .unset ∨ ∃ w3 : Int32, s3 = .val (.int w3)) → Stand p l e ({ frames := 1, cells := 0, slots := 0, locals := 14 } : Room) s m #[.ref o, .int (Int32.ofNat tt)] below meth c T L 0 0 → T.heap = h → Fr n0 L → Keep h0 h [o, sA] → Co Z h o cA sA k → Av Z h cA .int cc (fun xx => .int (κ xx)) → Av Z h sA .int sl (fun xx => .int (Int32.ofNat ((own_P zs sl k).getD xx 0))) → min k tt = min n tt → Go p e below (Fe s ({ frames := 1, cells := 0, slots := 0, locals := 14 } : Room).cells ({ frames := 1, cells := 0, slots := 0, locals := 14 } : Room).slots) (fun v h L => v = none ∧ Fr n0 L ∧ Keep h0 h [o, sA] ∧ Co Z h o cA sA (min n tt) ∧ Av Z h cA .int cc (fun xx => .int (κ xx)) ∧ Av Z h sA .int sl (fun xx => .int (Int32.ofNat ((own_P zs sl (min n tt)).getD xx 0)))) T (mkF m 8 #[.val (.ref o), .val (.int (Int32.ofNat tt)), .val (.int (Int32.ofNat sl - (1 : Int32))), s3] []) := by
    intro k; induction k with
    | zero =>
      intro hkn s3 T h L h3 X e1 NL KL C A S hmin
      refine g_aloadN (n := 9) X hx (hb hby d8_8) rfl rfl rfl ?_
      refine g_getF (n := 12) X hx hZ hown (hw _ (List.mem_of_getElem? (i := 19) rfl)) e1 C.2.2.2 (hb hby d8_9) rfl ?_
      intro T11 X11 e11
      refine g_iloadN (n := 13) X11 hx (hb hby d8_12) rfl rfl ?_
      refine g_icmp (n := 74) (n' := 16) X11 hx _ (own_cle _ _) (hb hby d8_13) (by decide) (by decide) rfl (fun _ => ?_) (fun hc => absurd ((own_le (n := 0) (i := tt) (by omega) (by omega)).mpr (by omega)) hc)
      have em : 0 = min n tt := by rw [← hmin]; omega
      refine g_retV X11 hx hret hlk (hb hby d8_74) (Fe.of (by decide) (by decide)) ?_
      try rw [e11]
      exact ⟨rfl, NL, KL, by rw [← em]; exact C, A, by rw [← em]; exact S⟩
    | succ k ih =>
      intro hkn s3 T h L h3 X e1 NL KL C A S hmin
      refine g_aloadN (n := 9) X hx (hb hby d8_8) rfl rfl rfl ?_
      refine g_getF (n := 12) X hx hZ hown (hw _ (List.mem_of_getElem? (i := 19) rfl)) e1 C.2.2.2 (hb hby d8_9) rfl ?_
      intro T12 X12 e12
      refine g_iloadN (n := 13) X12 hx (hb hby d8_12) rfl rfl ?_
      refine g_icmp (n := 74) (n' := 16) X12 hx _ (own_cle _ _) (hb hby d8_13) (by decide) (by decide) rfl (fun hc => ?_) (fun hc => ?_)
      · have hkt := (own_le (n := k + 1) (i := tt) (by omega) (by omega)).mp hc
        have em : k + 1 = min n tt := by rw [← hmin]; omega
        refine g_retV X12 hx hret hlk (hb hby d8_74) (Fe.of (by decide) (by decide)) ?_
        try rw [e12]
        exact ⟨rfl, NL, KL, by rw [← em]; exact C, A, by rw [← em]; exact S⟩
      · have hkt : ¬ k + 1 ≤ tt := fun z => hc ((own_le (n := k + 1) (i := tt) (by omega) (by omega)).mpr z)
        obtain ⟨j, hj1, hj2⟩ := hcut k (by omega)
        have hjl := own_find_lt _ _ _ hs0 _ _ _ (Nat.mod_lt _ hs0) hj1
        have hbk := hlen (k + 1) (by omega)
        refine g_aloadN (n := 17) X12 hx (hb hby d8_16) rfl rfl rfl ?_
        refine g_dup (n := 18) X12 hx (hb hby d8_17) rfl rfl ?_
        refine g_getF (n := 21) X12 hx hZ hown (hw _ (List.mem_of_getElem? (i := 19) rfl)) e12 C.2.2.2 (hb hby d8_18) rfl ?_
        intro T13 X13 e13
        refine g_iconst (n := 22) X13 hx (1 : Int32) (hb hby d8_21) rfl rfl ?_
        refine g_isub (n := 23) X13 hx (hb hby d8_22) rfl ?_
        rw [show Int32.ofNat (k + 1) - (1 : Int32) = Int32.ofNat k from own_sub (k + 1) 1 (by omega)]
        refine g_putF (n := 26) X13 hx hZ hown (hw _ (List.mem_of_getElem? (i := 19) rfl)) e13 C.2.2.2 C.1 (Or.inl (hw _ (List.mem_of_getElem? (i := 20) rfl))) (hw _ (List.mem_of_getElem? (i := 1) rfl)) (ty := .int) (by decide) rfl rfl (hb hby d8_23) rfl ?_
        intro T14 h14 X14 e14 W14
        have C1 := C.wsize hw k W14
        have A1 := A.other W14 hco
        have S1 := S.other W14 hso
        refine g_aloadN (n := 27) X14 hx (hb hby d8_26) rfl rfl rfl ?_
        refine g_getF (n := 30) X14 hx hZ hown (hw _ (List.mem_of_getElem? (i := 10) rfl)) e14 C1.2.1 (hb hby d8_27) rfl ?_
        intro T15 X15 e15
        refine g_aloadN (n := 31) X15 hx (hb hby d8_30) rfl rfl rfl ?_
        refine g_getF (n := 34) X15 hx hZ hown (hw _ (List.mem_of_getElem? (i := 19) rfl)) e15 C1.2.2.2 (hb hby d8_31) rfl ?_
        intro T16 X16 e16
        refine g_iaload (n := 35) X16 hx hZ e16 A1 k rfl (by omega) (.int (κ k)) rfl (hb hby d8_34) rfl ?_
        refine g_iloadN (n := 36) X16 hx (hb hby d8_35) rfl rfl ?_
        refine g_callSP (n := 39) (st := []) X16 hx hZ hown e16 (hw _ (List.mem_of_getElem? (i := 25) rfl)) (hw _ (List.mem_of_getElem? (i := 26) rfl)) (hw _ (List.mem_of_getElem? (i := 2) rfl)) (hw _ (List.mem_of_getElem? (i := 27) rfl)) (by decide) [.int (κ k), .int (Int32.ofNat sl - (1 : Int32))] (rm5 l Z a0 hw (κ k) (Int32.ofNat sl - (1 : Int32)) h14) pd_0 rfl (hb hby d8_36) rfl (by rw [hml]; rfl) (by decide) 0 (Nat.le_of_eq rfl) (by decide) (by decide) (by decide) ?_
        intro T17 X17 e17
        rw [own_start (κ k) sl hsl, hz k (by omega)]
        refine g_istoreN (n := 40) X17 hx (hb hby d8_39) rfl #[.val (.ref o), .val (.int (Int32.ofNat tt)), .val (.int (Int32.ofNat sl - (1 : Int32))), .val (.int (Int32.ofNat (zs k % sl)))] (by rcases h3 with rfl | ⟨w3, rfl⟩ <;> rfl) ?_
        have inner : ∀ (f q : Nat), q < sl → own_find (own_P zs sl (k + 1)) sl (k + 1) f q = some j → ∀ T, Stand p l e ({ frames := 1, cells := 0, slots := 0, locals := 14 } : Room) s m #[.ref o, .int (Int32.ofNat tt)] below meth c T (L ++ [⟨o, Jvm.RoadKit.slotOf Z "com/example/caddisfly/caddisfly/tableau/ConceptIndex" "size" "I"⟩]) 0 0 → T.heap = h14 → Go p e below (Fe s ({ frames := 1, cells := 0, slots := 0, locals := 14 } : Room).cells ({ frames := 1, cells := 0, slots := 0, locals := 14 } : Room).slots) (fun v h L => v = none ∧ Fr n0 L ∧ Keep h0 h [o, sA] ∧ Co Z h o cA sA (min n tt) ∧ Av Z h cA .int cc (fun xx => .int (κ xx)) ∧ Av Z h sA .int sl (fun xx => .int (Int32.ofNat ((own_P zs sl (min n tt)).getD xx 0)))) T (mkF m 40 #[.val (.ref o), .val (.int (Int32.ofNat tt)), .val (.int (Int32.ofNat sl - (1 : Int32))), .val (.int (Int32.ofNat q))] []) := by
          intro f; induction f with
          | zero => intro q hq hzz; cases hzz
          | succ f ihf =>
            intro q hq hzz T X e1
            unfold own_find at hzz
            have hbq := hbk.2 q
            refine g_aloadN (n := 41) X hx (hb hby d8_40) rfl rfl rfl ?_
            refine g_getF (n := 44) X hx hZ hown (hw _ (List.mem_of_getElem? (i := 12) rfl)) e1 C1.2.2.1 (hb hby d8_41) rfl ?_
            intro T18 X18 e18
            refine g_iloadN (n := 45) X18 hx (hb hby d8_44) rfl rfl ?_
            refine g_iaload (n := 46) X18 hx hZ e18 S1 q rfl hq (.int (Int32.ofNat ((own_P zs sl (k + 1)).getD q 0))) rfl (hb hby d8_45) rfl ?_
            refine g_aloadN (n := 47) X18 hx (hb hby d8_46) rfl rfl rfl ?_
            refine g_getF (n := 50) X18 hx hZ hown (hw _ (List.mem_of_getElem? (i := 19) rfl)) e18 C1.2.2.2 (hb hby d8_47) rfl ?_
            intro T19 X19 e19
            refine g_iconst (n := 51) X19 hx (1 : Int32) (hb hby d8_50) rfl rfl ?_
            refine g_iadd (n := 52) X19 hx (hb hby d8_51) rfl ?_
            rw [own_add1]
            refine g_icmp (n := 64) (n' := 55) X19 hx _ (own_ceq _ _) (hb hby d8_52) (by decide) (by decide) rfl (fun hc2 => ?_) (fun hc2 => ?_)
            · have hqq := (own_eq (by omega) (by omega)).mp hc2
              rw [if_pos hqq] at hzz
              have hqj : j = q := (Option.some.inj hzz).symm
              refine g_aloadN (n := 65) X19 hx (hb hby d8_64) rfl rfl rfl ?_
              refine g_getF (n := 68) X19 hx hZ hown (hw _ (List.mem_of_getElem? (i := 12) rfl)) e19 C1.2.2.1 (hb hby d8_65) rfl ?_
              intro T20 X20 e20
              refine g_iloadN (n := 69) X20 hx (hb hby d8_68) rfl rfl ?_
              refine g_iconst (n := 70) X20 hx (0 : Int32) (hb hby d8_69) rfl rfl ?_
              refine g_iastore (n := 71) X20 hx hZ e20 S1 q rfl hq (hb hby d8_70) rfl ?_
              intro T21 h21 X21 e21 W21 A21
              refine g_goto (n := 8) X21 hx (hb hby d8_71) (by decide) (by decide) ?_
              exact ih (by omega) (.val (.int (Int32.ofNat q))) T21 h21 _ (Or.inr ⟨_, rfl⟩) X21 e21 (Fr.snoc X21 (Fr.snoc X14 NL go) gs) ((KL.wr W14 (Or.inl (by simp))).wr W21 (Or.inl (by simp))) (C1.other W21 (Ne.symm hso)) (A1.other W21 hcs) (A21.congr (fun x hx => by
                rw [← hj2, own_getset _ _ _ _ (by omega), hqj]
                by_cases qq : x = q
                · rw [if_pos qq, if_pos qq]; rfl
                · rw [if_neg qq, if_neg qq])) (by omega)
            · have hqq : ¬ _ := fun z => hc2 ((own_eq (by omega) (by omega)).mpr z)
              rw [if_neg hqq] at hzz
              refine g_iloadN (n := 56) X19 hx (hb hby d8_55) rfl rfl ?_
              refine g_iconst (n := 57) X19 hx (1 : Int32) (hb hby d8_56) rfl rfl ?_
              refine g_iadd (n := 58) X19 hx (hb hby d8_57) rfl ?_
              refine g_iloadN (n := 59) X19 hx (hb hby d8_58) rfl rfl ?_
              refine g_iand (n := 60) X19 hx (hb hby d8_59) rfl ?_
              rw [own_next q sl hsl hq]
              refine g_istoreN (n := 61) X19 hx (hb hby d8_60) rfl #[.val (.ref o), .val (.int (Int32.ofNat tt)), .val (.int (Int32.ofNat sl - (1 : Int32))), .val (.int (Int32.ofNat ((q + 1) % sl)))] rfl ?_
              refine g_goto (n := 40) X19 hx (hb hby d8_61) (by decide) (by decide) ?_
              exact ihf _ (Nat.mod_lt _ hs0) hzz _ X19 e19
        exact inner 8 _ (Nat.mod_lt _ hs0) hj1 _ X17 e17
  refine g_aloadN (n := 1) X0 hx (hb hby d8_0) rfl rfl rfl ?_
  refine g_getF (n := 4) X0 hx hZ hown (hw _ (List.mem_of_getElem? (i := 12) rfl)) e0 C.2.2.1 (hb hby d8_1) rfl ?_
  intro T22 X22 e22
  refine g_len (n := 5) X22 hx hZ e22 S (hb hby d8_4) rfl ?_
  refine g_iconst (n := 6) X22 hx (1 : Int32) (hb hby d8_5) rfl rfl ?_
  refine g_isub (n := 7) X22 hx (hb hby d8_6) rfl ?_
  refine g_istoreN (n := 8) X22 hx (hb hby d8_7) rfl #[.val (.ref o), .val (.int (Int32.ofNat tt)), .val (.int ((Int32.ofNat sl) - (1 : Int32))), .unset] rfl ?_
  exact outer n (Nat.le_refl _) .unset _ h0 [] (Or.inl rfl) X22 e22 (Fr.nil n0) (Keep.refl _ _) C A S rfl
theorem d6_0 : decode jdk_65_method_123_code 0 = .ok (.iload_n 1, 1) := by decide +kernel
theorem d6_1 : decode jdk_65_method_123_code 1 = .ok (.aload_n 0, 1) := by decide +kernel
theorem d6_2 : decode jdk_65_method_123_code 2 = .ok (.arraylength, 1) := by decide +kernel
theorem d6_3 : decode jdk_65_method_123_code 3 = .ok (.if_icmp .ne 11, 3) := by decide +kernel
theorem d6_6 : decode jdk_65_method_123_code 6 = .ok (.aload_n 0, 1) := by decide +kernel
theorem d6_7 : decode jdk_65_method_123_code 7 = .ok (.invokevirtual 316, 3) := by decide +kernel
theorem d6_10 : decode jdk_65_method_123_code 10 = .ok (.checkcast 317, 3) := by decide +kernel
theorem d6_13 : decode jdk_65_method_123_code 13 = .ok (.areturn, 1) := by decide +kernel
theorem d6_14 : decode jdk_65_method_123_code 14 = .ok (.iload_n 1, 1) := by decide +kernel
theorem d6_15 : decode jdk_65_method_123_code 15 = .ok (.newarray .int, 2) := by decide +kernel
theorem d6_17 : decode jdk_65_method_123_code 17 = .ok (.astore_n 2, 1) := by decide +kernel
theorem d6_18 : decode jdk_65_method_123_code 18 = .ok (.aload_n 0, 1) := by decide +kernel
theorem d6_19 : decode jdk_65_method_123_code 19 = .ok (.iconst 0, 1) := by decide +kernel
theorem d6_20 : decode jdk_65_method_123_code 20 = .ok (.aload_n 2, 1) := by decide +kernel
theorem d6_21 : decode jdk_65_method_123_code 21 = .ok (.iconst 0, 1) := by decide +kernel
theorem d6_22 : decode jdk_65_method_123_code 22 = .ok (.aload_n 0, 1) := by decide +kernel
theorem d6_23 : decode jdk_65_method_123_code 23 = .ok (.arraylength, 1) := by decide +kernel
theorem d6_24 : decode jdk_65_method_123_code 24 = .ok (.iload_n 1, 1) := by decide +kernel
theorem d6_25 : decode jdk_65_method_123_code 25 = .ok (.invokestatic 304, 3) := by decide +kernel
theorem d6_28 : decode jdk_65_method_123_code 28 = .ok (.invokestatic 150, 3) := by decide +kernel
theorem d6_31 : decode jdk_65_method_123_code 31 = .ok (.aload_n 2, 1) := by decide +kernel
theorem d6_32 : decode jdk_65_method_123_code 32 = .ok (.areturn, 1) := by decide +kernel
theorem pn_6 : plainFor (⟨"java/util/Arrays", "copyOf", "([II)[I"⟩ : MethodName) = true := by first | (exact plainFor_of_name (by first | (simp [plainName, overriddenIn, x]; done) | decide +kernel)) | decide +kernel
set_option maxRecDepth 65536 in
set_option maxHeartbeats 40000000 in
theorem rm6 (l : Launch) (Z : State) (a0 : Array Value) (hw : ∀ d ∈ tables_1, d.before a0 Z = true) (a1 : Nat) (cc nn n0 : Nat) (κ : Nat → Int32) (h0 : Heap) (A : Av Z h0 a1 .int cc (fun xx => .int (κ xx))) (hcc : cc < nn) (hnn : nn ≤ 4) (Z0 : n0 ≤ h0.size) :
    OMet l Z (⟨"java/util/Arrays", "copyOf", "([II)[I"⟩ : MethodName) jdk_65_method_123_code 3 (some (.array (.int))) [] ({ frames := 1, cells := 1, slots := 4, locals := 18 } : Room) #[.ref a1, .int (Int32.ofNat nn)] h0 (fun v h L => ∃ r : Nat, v = some (.ref r) ∧ h0.size ≤ r ∧ Fr n0 L ∧ Keep h0 h [] ∧ Av Z h r .int nn (fun j => .int (if j < cc then κ j else 0))) := by
  refine own_body (Ls := #[.val (.ref a1), .val (.int (Int32.ofNat nn)), .unset]) pn_6 (fun m => by first | (simp [entryFrame, mkF, argsToLocals, Value.category, maxLocals]; done) | rfl) ?_
  intro p e s m below meth c s₁ X0 hx hby hml hown hnm hret hlk hZ e0
  refine g_iloadN (n := 1) X0 hx (hb hby d6_0) rfl rfl ?_
  refine g_aloadN (n := 2) X0 hx (hb hby d6_1) rfl rfl rfl ?_
  refine g_len (n := 3) X0 hx hZ e0 A (hb hby d6_2) rfl ?_
  refine g_icmp (n := 14) (n' := 6) X0 hx _ (own_cne _ _) (hb hby d6_3) (by decide) (by decide) rfl (fun _ => ?_) (fun hc => absurd (fun z => absurd ((own_eq (by omega) (by omega)).mp z) (by omega)) hc)
  refine g_iloadN (n := 15) X0 hx (hb hby d6_14) rfl rfl ?_
  refine g_newarray (n := 17) X0 hx hZ .int rfl (hw _ (List.mem_of_getElem? (i := 9) rfl)) e0 nn rfl 4 (by omega) (by decide) (by decide) (by decide) (hb hby d6_15) rfl ?_
  intro T11 h11 a11 X11 e11 z11 E11 A11
  refine g_astoreN (n := 18) X11 hx (hb hby d6_17) rfl rfl #[.val (.ref a1), .val (.int (Int32.ofNat nn)), .val (.ref a11)] rfl ?_
  refine g_aloadN (n := 19) X11 hx (hb hby d6_18) rfl rfl rfl ?_
  refine g_iconst (n := 20) X11 hx (0 : Int32) (hb hby d6_19) rfl rfl ?_
  refine g_aloadN (n := 21) X11 hx (hb hby d6_20) rfl rfl rfl ?_
  refine g_iconst (n := 22) X11 hx (0 : Int32) (hb hby d6_21) rfl rfl ?_
  refine g_aloadN (n := 23) X11 hx (hb hby d6_22) rfl rfl rfl ?_
  have A1 := A.ext E11
  refine g_len (n := 24) X11 hx hZ e11 A1 (hb hby d6_23) rfl ?_
  refine g_iloadN (n := 25) X11 hx (hb hby d6_24) rfl rfl ?_
  refine g_callSP (n := 28) (st := [(.int (0 : Int32)), (.ref a11), (.int (0 : Int32)), (.ref a1)]) X11 hx hZ hown e11 (hw _ (List.mem_of_getElem? (i := 33) rfl)) (hw _ (List.mem_of_getElem? (i := 34) rfl)) (hw _ (List.mem_of_getElem? (i := 35) rfl)) (hw _ (List.mem_of_getElem? (i := 36) rfl)) (by decide) [.int (Int32.ofNat cc), .int (Int32.ofNat nn)] (rm7 l Z a0 hw (Int32.ofNat cc) (Int32.ofNat nn) h11) pd_0 rfl (hb hby d6_25) rfl (by rw [hml]; rfl) (by decide) 4 (Nat.le_of_eq rfl) (by decide) (by decide) (by decide) ?_
  intro T12 X12 e12
  rw [own_min_nat cc nn (by omega) (by omega), Nat.min_eq_left (by omega)]
  refine g_acopy (n := 31) X12 hx hZ hown (hw _ (List.mem_of_getElem? (i := 37) rfl)) (hw _ (List.mem_of_getElem? (i := 40) rfl)) (hw _ (List.mem_of_getElem? (i := 38) rfl)) (hw _ (List.mem_of_getElem? (i := 39) rfl)) e12 A1 A11 (fun _ _ => rfl) (fun _ _ => rfl) 0 0 cc (Or.inl rfl) (by omega) (by omega) rfl rfl rfl (Fr.nil n0) (by omega) (hb hby d6_28) rfl (by rw [hml]; rfl) (by decide) 0 (Nat.le_of_eq rfl) (by decide) ?_
  intro T13 h13 L13 X13 e13 N13 K13 A13
  refine g_aloadN (n := 32) X13 hx (hb hby d6_31) rfl rfl rfl ?_
  refine g_retA X13 hx hret rfl rfl hlk (hb hby d6_32) (Fe.of (by decide) (by decide)) ?_
  try rw [e13]
  exact ⟨a11, rfl, by omega, N13, (Keep.trans ((Keep.refl h0 []).ext E11) K13 (by intro x hx; right; rw [List.mem_singleton.mp hx]; omega)), A13.congr (fun x hx => by
    by_cases q : x < cc
    · rw [if_pos (by omega), if_pos q]; congr 2; omega
    · rw [if_neg (by omega), if_neg q]; rfl)⟩
theorem d3_0 : decode prog_82_method_5_code 0 = .ok (.aload_n 0, 1) := by decide +kernel
theorem d3_1 : decode prog_82_method_5_code 1 = .ok (.getfield 16, 3) := by decide +kernel
theorem d3_4 : decode prog_82_method_5_code 4 = .ok (.aload_n 0, 1) := by decide +kernel
theorem d3_5 : decode prog_82_method_5_code 5 = .ok (.getfield 7, 3) := by decide +kernel
theorem d3_8 : decode prog_82_method_5_code 8 = .ok (.arraylength, 1) := by decide +kernel
theorem d3_9 : decode prog_82_method_5_code 9 = .ok (.if_icmp .ne 20, 3) := by decide +kernel
theorem d3_12 : decode prog_82_method_5_code 12 = .ok (.aload_n 0, 1) := by decide +kernel
theorem d3_13 : decode prog_82_method_5_code 13 = .ok (.aload_n 0, 1) := by decide +kernel
theorem d3_14 : decode prog_82_method_5_code 14 = .ok (.getfield 7, 3) := by decide +kernel
theorem d3_17 : decode prog_82_method_5_code 17 = .ok (.aload_n 0, 1) := by decide +kernel
theorem d3_18 : decode prog_82_method_5_code 18 = .ok (.getfield 16, 3) := by decide +kernel
theorem d3_21 : decode prog_82_method_5_code 21 = .ok (.iconst 2, 1) := by decide +kernel
theorem d3_22 : decode prog_82_method_5_code 22 = .ok (.imul, 1) := by decide +kernel
theorem d3_23 : decode prog_82_method_5_code 23 = .ok (.invokestatic 24, 3) := by decide +kernel
theorem d3_26 : decode prog_82_method_5_code 26 = .ok (.putfield 7, 3) := by decide +kernel
theorem d3_29 : decode prog_82_method_5_code 29 = .ok (.aload_n 0, 1) := by decide +kernel
theorem d3_30 : decode prog_82_method_5_code 30 = .ok (.getfield 7, 3) := by decide +kernel
theorem d3_33 : decode prog_82_method_5_code 33 = .ok (.aload_n 0, 1) := by decide +kernel
theorem d3_34 : decode prog_82_method_5_code 34 = .ok (.getfield 16, 3) := by decide +kernel
theorem d3_37 : decode prog_82_method_5_code 37 = .ok (.iload_n 1, 1) := by decide +kernel
theorem d3_38 : decode prog_82_method_5_code 38 = .ok (.iastore, 1) := by decide +kernel
theorem d3_39 : decode prog_82_method_5_code 39 = .ok (.aload_n 0, 1) := by decide +kernel
theorem d3_40 : decode prog_82_method_5_code 40 = .ok (.dup, 1) := by decide +kernel
theorem d3_41 : decode prog_82_method_5_code 41 = .ok (.getfield 16, 3) := by decide +kernel
theorem d3_44 : decode prog_82_method_5_code 44 = .ok (.iconst 1, 1) := by decide +kernel
theorem d3_45 : decode prog_82_method_5_code 45 = .ok (.iadd, 1) := by decide +kernel
theorem d3_46 : decode prog_82_method_5_code 46 = .ok (.putfield 16, 3) := by decide +kernel
theorem d3_49 : decode prog_82_method_5_code 49 = .ok (.aload_n 0, 1) := by decide +kernel
theorem d3_50 : decode prog_82_method_5_code 50 = .ok (.getfield 16, 3) := by decide +kernel
theorem d3_53 : decode prog_82_method_5_code 53 = .ok (.iconst 2, 1) := by decide +kernel
theorem d3_54 : decode prog_82_method_5_code 54 = .ok (.imul, 1) := by decide +kernel
theorem d3_55 : decode prog_82_method_5_code 55 = .ok (.aload_n 0, 1) := by decide +kernel
theorem d3_56 : decode prog_82_method_5_code 56 = .ok (.getfield 13, 3) := by decide +kernel
theorem d3_59 : decode prog_82_method_5_code 59 = .ok (.arraylength, 1) := by decide +kernel
theorem d3_60 : decode prog_82_method_5_code 60 = .ok (.if_icmp .le 40, 3) := by decide +kernel
theorem d3_63 : decode prog_82_method_5_code 63 = .ok (.aload_n 0, 1) := by decide +kernel
theorem d3_64 : decode prog_82_method_5_code 64 = .ok (.aload_n 0, 1) := by decide +kernel
theorem d3_65 : decode prog_82_method_5_code 65 = .ok (.getfield 13, 3) := by decide +kernel
theorem d3_68 : decode prog_82_method_5_code 68 = .ok (.arraylength, 1) := by decide +kernel
theorem d3_69 : decode prog_82_method_5_code 69 = .ok (.iconst 2, 1) := by decide +kernel
theorem d3_70 : decode prog_82_method_5_code 70 = .ok (.imul, 1) := by decide +kernel
theorem d3_71 : decode prog_82_method_5_code 71 = .ok (.newarray .int, 2) := by decide +kernel
theorem d3_73 : decode prog_82_method_5_code 73 = .ok (.putfield 13, 3) := by decide +kernel
theorem d3_76 : decode prog_82_method_5_code 76 = .ok (.iconst 0, 1) := by decide +kernel
theorem d3_77 : decode prog_82_method_5_code 77 = .ok (.istore_n 2, 1) := by decide +kernel
theorem d3_78 : decode prog_82_method_5_code 78 = .ok (.iload_n 2, 1) := by decide +kernel
theorem d3_79 : decode prog_82_method_5_code 79 = .ok (.aload_n 0, 1) := by decide +kernel
theorem d3_80 : decode prog_82_method_5_code 80 = .ok (.getfield 16, 3) := by decide +kernel
theorem d3_83 : decode prog_82_method_5_code 83 = .ok (.if_icmp .ge 14, 3) := by decide +kernel
theorem d3_86 : decode prog_82_method_5_code 86 = .ok (.aload_n 0, 1) := by decide +kernel
theorem d3_87 : decode prog_82_method_5_code 87 = .ok (.iload_n 2, 1) := by decide +kernel
theorem d3_88 : decode prog_82_method_5_code 88 = .ok (.invokevirtual 30, 3) := by decide +kernel
theorem d3_91 : decode prog_82_method_5_code 91 = .ok (.iinc 2 1, 3) := by decide +kernel
theorem d3_94 : decode prog_82_method_5_code 94 = .ok (.goto (-16), 3) := by decide +kernel
theorem d3_97 : decode prog_82_method_5_code 97 = .ok (.goto 13, 3) := by decide +kernel
theorem d3_100 : decode prog_82_method_5_code 100 = .ok (.aload_n 0, 1) := by decide +kernel
theorem d3_101 : decode prog_82_method_5_code 101 = .ok (.aload_n 0, 1) := by decide +kernel
theorem d3_102 : decode prog_82_method_5_code 102 = .ok (.getfield 16, 3) := by decide +kernel
theorem d3_105 : decode prog_82_method_5_code 105 = .ok (.iconst 1, 1) := by decide +kernel
theorem d3_106 : decode prog_82_method_5_code 106 = .ok (.isub, 1) := by decide +kernel
theorem d3_107 : decode prog_82_method_5_code 107 = .ok (.invokevirtual 30, 3) := by decide +kernel
theorem d3_110 : decode prog_82_method_5_code 110 = .ok (.return_, 1) := by decide +kernel
theorem pn_3 : plainFor (⟨"com/example/caddisfly/caddisfly/tableau/ConceptIndex", "add", "(I)V"⟩ : MethodName) = true := by first | (exact plainFor_of_name (by first | (simp [plainName, overriddenIn, x]; done) | decide +kernel)) | decide +kernel
set_option maxRecDepth 65536 in
set_option maxHeartbeats 40000000 in
theorem rm3 (l : Launch) (Z : State) (a0 : Array Value) (hw : ∀ d ∈ tables_1, d.before a0 Z = true) (o cA sA : Nat) (p1 : Int32) (n cc sl n0 : Nat) (κ : Nat → Int32) (zs : Nat → Nat) (h0 : Heap) (C : Co Z h0 o cA sA n) (A : Av Z h0 cA .int cc (fun xx => .int (κ xx))) (S : Av Z h0 sA .int sl (fun xx => .int (Int32.ofNat ((own_P zs sl n).getD xx 0)))) (hn3 : n ≤ 2) (hco : cA ≠ o) (hso : sA ≠ o) (hcs : cA ≠ sA) (go : n0 ≤ o) (gc : n0 ≤ cA) (gs : n0 ≤ sA) (hnc : n < cc) (hcc : cc ≤ 4) (hn2 : (n + 1) * 2 ≤ sl) (hsl : sl = 2 ∨ sl = 4 ∨ sl = 8) (hlen : (own_P zs sl n).length = sl ∧ ∀ x, (own_P zs sl n).getD x 0 ≤ n) (hput : ∃ j, own_find (own_P zs sl n) sl 0 8 (zs n % sl) = some j ∧ own_P zs sl (n + 1) = (own_P zs sl n).set j (n + 1)) (hzn : own_z p1 = zs n) :
    OMet l Z (⟨"com/example/caddisfly/caddisfly/tableau/ConceptIndex", "add", "(I)V"⟩ : MethodName) prog_82_method_5_code 3 none [] ({ frames := 2, cells := 0, slots := 0, locals := 29 } : Room) #[.ref o, .int p1] h0 (fun v h L => v = none ∧ Fr n0 L ∧ Keep h0 h [cA, o, sA] ∧ Co Z h o cA sA (n + 1) ∧ Av Z h cA .int cc (fun j => .int ((fun j => if j = n then p1 else κ j) j)) ∧ Av Z h sA .int sl (fun xx => .int (Int32.ofNat ((own_P zs sl (n + 1)).getD xx 0)))) := by
  refine own_body (Ls := #[.val (.ref o), .val (.int p1), .unset]) pn_3 (fun m => by first | (simp [entryFrame, mkF, argsToLocals, Value.category, maxLocals]; done) | rfl) ?_
  intro p e s m below meth c s₁ X0 hx hby hml hown hnm hret hlk hZ e0
  obtain ⟨j, hj1, hj2⟩ := hput
  have hln := hlen.1
  refine g_aloadN (n := 1) X0 hx (hb hby d3_0) rfl rfl rfl ?_
  refine g_getF (n := 4) X0 hx hZ hown (hw _ (List.mem_of_getElem? (i := 19) rfl)) e0 C.2.2.2 (hb hby d3_1) rfl ?_
  intro T11 X11 e11
  refine g_aloadN (n := 5) X11 hx (hb hby d3_4) rfl rfl rfl ?_
  refine g_getF (n := 8) X11 hx hZ hown (hw _ (List.mem_of_getElem? (i := 10) rfl)) e11 C.2.1 (hb hby d3_5) rfl ?_
  intro T12 X12 e12
  refine g_len (n := 9) X12 hx hZ e12 A (hb hby d3_8) rfl ?_
  refine g_icmp (n := 29) (n' := 12) X12 hx _ (own_cne _ _) (hb hby d3_9) (by decide) (by decide) rfl (fun _ => ?_) (fun hc => absurd (fun z => absurd ((own_eq (by omega) (by omega)).mp z) (by omega)) hc)
  refine g_aloadN (n := 30) X12 hx (hb hby d3_29) rfl rfl rfl ?_
  refine g_getF (n := 33) X12 hx hZ hown (hw _ (List.mem_of_getElem? (i := 10) rfl)) e12 C.2.1 (hb hby d3_30) rfl ?_
  intro T13 X13 e13
  refine g_aloadN (n := 34) X13 hx (hb hby d3_33) rfl rfl rfl ?_
  refine g_getF (n := 37) X13 hx hZ hown (hw _ (List.mem_of_getElem? (i := 19) rfl)) e13 C.2.2.2 (hb hby d3_34) rfl ?_
  intro T14 X14 e14
  refine g_iloadN (n := 38) X14 hx (hb hby d3_37) rfl rfl ?_
  refine g_iastore (n := 39) X14 hx hZ e14 A n rfl hnc (hb hby d3_38) rfl ?_
  intro T15 h15 X15 e15 W15 A15
  have C1 := C.other W15 (Ne.symm hco)
  have S1 := S.other W15 (Ne.symm hcs)
  have A1 : Av Z h15 cA .int cc (fun j => .int ((fun j => if j = n then p1 else κ j) j)) := A15.congr (fun x hx => by by_cases q : x = n <;> simp [q])
  refine g_aloadN (n := 40) X15 hx (hb hby d3_39) rfl rfl rfl ?_
  refine g_dup (n := 41) X15 hx (hb hby d3_40) rfl rfl ?_
  refine g_getF (n := 44) X15 hx hZ hown (hw _ (List.mem_of_getElem? (i := 19) rfl)) e15 C1.2.2.2 (hb hby d3_41) rfl ?_
  intro T16 X16 e16
  refine g_iconst (n := 45) X16 hx (1 : Int32) (hb hby d3_44) rfl rfl ?_
  refine g_iadd (n := 46) X16 hx (hb hby d3_45) rfl ?_
  rw [own_add1]
  refine g_putF (n := 49) X16 hx hZ hown (hw _ (List.mem_of_getElem? (i := 19) rfl)) e16 C1.2.2.2 C1.1 (Or.inl (hw _ (List.mem_of_getElem? (i := 20) rfl))) (hw _ (List.mem_of_getElem? (i := 1) rfl)) (ty := .int) (by decide) rfl rfl (hb hby d3_46) rfl ?_
  intro T17 h17 X17 e17 W17
  have C2 := C1.wsize hw (n + 1) W17
  have A2 := A1.other W17 hco
  have S2 := S1.other W17 hso
  refine g_aloadN (n := 50) X17 hx (hb hby d3_49) rfl rfl rfl ?_
  refine g_getF (n := 53) X17 hx hZ hown (hw _ (List.mem_of_getElem? (i := 19) rfl)) e17 C2.2.2.2 (hb hby d3_50) rfl ?_
  intro T18 X18 e18
  refine g_iconst (n := 54) X18 hx (2 : Int32) (hb hby d3_53) rfl rfl ?_
  refine g_imul (n := 55) X18 hx (hb hby d3_54) rfl ?_
  rw [own_dbl]
  refine g_aloadN (n := 56) X18 hx (hb hby d3_55) rfl rfl rfl ?_
  refine g_getF (n := 59) X18 hx hZ hown (hw _ (List.mem_of_getElem? (i := 12) rfl)) e18 C2.2.2.1 (hb hby d3_56) rfl ?_
  intro T19 X19 e19
  refine g_len (n := 60) X19 hx hZ e19 S2 (hb hby d3_59) rfl ?_
  refine g_icmp (n := 100) (n' := 63) X19 hx _ (own_cle _ _) (hb hby d3_60) (by decide) (by decide) rfl (fun _ => ?_) (fun hc => absurd ((own_le (by omega) (by omega)).mpr hn2) hc)
  refine g_aloadN (n := 101) X19 hx (hb hby d3_100) rfl rfl rfl ?_
  refine g_aloadN (n := 102) X19 hx (hb hby d3_101) rfl rfl rfl ?_
  refine g_getF (n := 105) X19 hx hZ hown (hw _ (List.mem_of_getElem? (i := 19) rfl)) e19 C2.2.2.2 (hb hby d3_102) rfl ?_
  intro T20 X20 e20
  refine g_iconst (n := 106) X20 hx (1 : Int32) (hb hby d3_105) rfl rfl ?_
  refine g_isub (n := 107) X20 hx (hb hby d3_106) rfl ?_
  rw [show Int32.ofNat (n + 1) - (1 : Int32) = Int32.ofNat n from own_sub (n + 1) 1 (by omega)]
  refine g_callP (y := ⟨"com/example/caddisfly/caddisfly/tableau/ConceptIndex", "place", "(I)V"⟩) (u := ⟨"com/example/caddisfly/caddisfly/tableau/ConceptIndex", "add", "(I)V"⟩) (n := 110) (st := []) X20 hx hZ hown e20 rfl (hw _ (List.mem_of_getElem? (i := 21) rfl)) (hw _ (List.mem_of_getElem? (i := 22) rfl)) (hw _ (List.mem_of_getElem? (i := 23) rfl)) (hw _ (List.mem_of_getElem? (i := 17) rfl)) (hw _ (List.mem_of_getElem? (i := 2) rfl)) (hw _ (List.mem_of_getElem? (i := 24) rfl)) (by decide) o C2.1 [.int (Int32.ofNat n)] (rm4 l Z a0 hw o cA sA (n + 1) cc sl n j n0 (fun j => if j = n then p1 else κ j) (own_P zs sl n) h17 C2 A2 S2 hnc (by omega) hsl hln (fun x => Nat.le_trans (hlen.2 x) (by omega)) (by show own_find _ sl 0 8 (own_z (if n = n then p1 else κ n) % sl) = _; rw [if_pos rfl, hzn]; exact hj1) gs) pd_1 rfl (hb hby d3_107) rfl (by rw [hml]; rfl) (by decide) 0 (Nat.le_of_eq rfl) (by decide) (by decide) (by decide) ?_
  intro T21 h21 v21 L21 X21 e21 Q21
  obtain ⟨rfl, N21, K21, S3⟩ := Q21
  refine g_retV X21 hx hret hlk (hb hby d3_110) (Fe.of (by decide) (by decide)) ?_
  try rw [e21]
  exact ⟨rfl, Fr.app (Fr.snoc X17 (Fr.snoc X15 (Fr.nil n0) gc) go) N21, Keep.trans ((Keep.refl _ [cA, o, sA]).wr W15 (Or.inl (by simp)) |>.wr W17 (Or.inl (by simp))) K21 (by intro x hx; left; simp at hx; simp [hx]), C2.keep K21 (ninS (Ne.symm hso) nin0), A2.keep K21 (ninS hcs nin0), by rw [hj2]; exact S3⟩
set_option maxRecDepth 65536 in
set_option maxHeartbeats 40000000 in
theorem rm3g (l : Launch) (Z : State) (a0 : Array Value) (hw : ∀ d ∈ tables_1, d.before a0 Z = true) (o cA sA : Nat) (p1 : Int32) (n sl n0 : Nat) (κ : Nat → Int32) (zs : Nat → Nat) (h0 : Heap) (C : Co Z h0 o cA sA n) (A : Av Z h0 cA .int n (fun xx => .int (κ xx))) (S : Av Z h0 sA .int sl (fun xx => .int (Int32.ofNat ((own_P zs sl n).getD xx 0)))) (hn3 : n ≤ 2) (hco : cA ≠ o) (hso : sA ≠ o) (hcs : cA ≠ sA) (go : n0 ≤ o) (gc : n0 ≤ cA) (gs : n0 ≤ sA) (Z0 : n0 ≤ h0.size) (hn1 : 1 ≤ n) (hn2 : sl < (n + 1) * 2) (hs4 : sl ≤ 4) (hsl2 : sl * 2 = 2 ∨ sl * 2 = 4 ∨ sl * 2 = 8) (hlen : ∀ k, k ≤ n → (own_P zs (sl * 2) k).length = sl * 2 ∧ ∀ x, (own_P zs (sl * 2) k).getD x 0 ≤ k) (hput : ∀ k, k ≤ n → ∃ j, own_find (own_P zs (sl * 2) k) (sl * 2) 0 8 (zs k % (sl * 2)) = some j ∧ own_P zs (sl * 2) (k + 1) = (own_P zs (sl * 2) k).set j (k + 1)) (hzn : own_z p1 = zs n) (hzk : ∀ k, k < n → own_z (κ k) = zs k) :
    OMet l Z (⟨"com/example/caddisfly/caddisfly/tableau/ConceptIndex", "add", "(I)V"⟩ : MethodName) prog_82_method_5_code 3 none [] ({ frames := 2, cells := 2, slots := 12, locals := 33 } : Room) #[.ref o, .int p1] h0 (fun v h L => v = none ∧ Fr n0 L ∧ Keep h0 h [o] ∧ ∃ cB sB, h0.size ≤ cB ∧ h0.size ≤ sB ∧ cB ≠ sB ∧ Co Z h o cB sB (n + 1) ∧ Av Z h cB .int (n * 2) (fun j => .int ((fun j => if j = n then p1 else if j < n then κ j else 0) j)) ∧ Av Z h sB .int (sl * 2) (fun j => .int (Int32.ofNat ((own_P zs (sl * 2) (n + 1)).getD j 0)))) := by
  refine own_body (Ls := #[.val (.ref o), .val (.int p1), .unset]) pn_3 (fun m => by first | (simp [entryFrame, mkF, argsToLocals, Value.category, maxLocals]; done) | rfl) ?_
  intro p e s m below meth c s₁ X0 hx hby hml hown hnm hret hlk hZ e0
  refine g_aloadN (n := 1) X0 hx (hb hby d3_0) rfl rfl rfl ?_
  refine g_getF (n := 4) X0 hx hZ hown (hw _ (List.mem_of_getElem? (i := 19) rfl)) e0 C.2.2.2 (hb hby d3_1) rfl ?_
  intro T11 X11 e11
  refine g_aloadN (n := 5) X11 hx (hb hby d3_4) rfl rfl rfl ?_
  refine g_getF (n := 8) X11 hx hZ hown (hw _ (List.mem_of_getElem? (i := 10) rfl)) e11 C.2.1 (hb hby d3_5) rfl ?_
  intro T12 X12 e12
  refine g_len (n := 9) X12 hx hZ e12 A (hb hby d3_8) rfl ?_
  refine g_icmp (n := 29) (n' := 12) X12 hx _ (own_cne _ _) (hb hby d3_9) (by decide) (by decide) rfl (fun hc => absurd hc (fun q => q rfl)) (fun _ => ?_)
  refine g_aloadN (n := 13) X12 hx (hb hby d3_12) rfl rfl rfl ?_
  refine g_aloadN (n := 14) X12 hx (hb hby d3_13) rfl rfl rfl ?_
  refine g_getF (n := 17) X12 hx hZ hown (hw _ (List.mem_of_getElem? (i := 10) rfl)) e12 C.2.1 (hb hby d3_14) rfl ?_
  intro T13 X13 e13
  refine g_aloadN (n := 18) X13 hx (hb hby d3_17) rfl rfl rfl ?_
  refine g_getF (n := 21) X13 hx hZ hown (hw _ (List.mem_of_getElem? (i := 19) rfl)) e13 C.2.2.2 (hb hby d3_18) rfl ?_
  intro T14 X14 e14
  refine g_iconst (n := 22) X14 hx (2 : Int32) (hb hby d3_21) rfl rfl ?_
  refine g_imul (n := 23) X14 hx (hb hby d3_22) rfl ?_
  rw [own_dbl]
  refine g_callS (n := 26) (st := [(.ref o)]) X14 hx hZ hown e14 (hw _ (List.mem_of_getElem? (i := 29) rfl)) (hw _ (List.mem_of_getElem? (i := 30) rfl)) (hw _ (List.mem_of_getElem? (i := 31) rfl)) (hw _ (List.mem_of_getElem? (i := 32) rfl)) (by decide) [.ref cA, .int (Int32.ofNat (n * 2))] (rm6 l Z a0 hw cA n (n * 2) n0 κ h0 A (by omega) (by omega) Z0) pd_2 rfl (hb hby d3_23) rfl (by rw [hml]; rfl) (by decide) 1 (Nat.le_of_eq rfl) (by decide) (by decide) (by decide) ?_
  intro T15 h15 v15 L15 X15 e15 Q15
  obtain ⟨cB, rfl, gcB, N15, K15, A0⟩ := Q15
  have C0 := C.keep K15 nin0
  have S0 := S.keep K15 nin0
  have lo := own_elt C.1
  have ls := S.lt
  have hBo : cB ≠ o := by omega
  have hBs : cB ≠ sA := by omega
  refine g_putF (n := 29) X15 hx hZ hown (hw _ (List.mem_of_getElem? (i := 10) rfl)) e15 C0.2.1 C0.1 (Or.inl (hw _ (List.mem_of_getElem? (i := 11) rfl))) (hw _ (List.mem_of_getElem? (i := 1) rfl)) (ty := .array (.int)) (by decide +kernel) rfl rfl (hb hby d3_26) rfl ?_
  intro T16 h16 X16 e16 W16
  have C0b := C0.wconcepts hw cB W16
  have A0b := A0.other W16 hBo
  have S0b := S0.other W16 hso
  refine g_aloadN (n := 30) X16 hx (hb hby d3_29) rfl rfl rfl ?_
  refine g_getF (n := 33) X16 hx hZ hown (hw _ (List.mem_of_getElem? (i := 10) rfl)) e16 C0b.2.1 (hb hby d3_30) rfl ?_
  intro T17 X17 e17
  refine g_aloadN (n := 34) X17 hx (hb hby d3_33) rfl rfl rfl ?_
  refine g_getF (n := 37) X17 hx hZ hown (hw _ (List.mem_of_getElem? (i := 19) rfl)) e17 C0b.2.2.2 (hb hby d3_34) rfl ?_
  intro T18 X18 e18
  refine g_iloadN (n := 38) X18 hx (hb hby d3_37) rfl rfl ?_
  refine g_iastore (n := 39) X18 hx hZ e18 A0b n rfl (by omega) (hb hby d3_38) rfl ?_
  intro T19 h19 X19 e19 W19 A19
  have C1 := C0b.other W19 (Ne.symm hBo)
  have S1 := S0b.other W19 (Ne.symm hBs)
  have A1 : Av Z h19 cB .int (n * 2) (fun j => .int ((fun j => if j = n then p1 else if j < n then κ j else 0) j)) := A19.congr (fun x hx => by by_cases q : x = n <;> simp [q])
  refine g_aloadN (n := 40) X19 hx (hb hby d3_39) rfl rfl rfl ?_
  refine g_dup (n := 41) X19 hx (hb hby d3_40) rfl rfl ?_
  refine g_getF (n := 44) X19 hx hZ hown (hw _ (List.mem_of_getElem? (i := 19) rfl)) e19 C1.2.2.2 (hb hby d3_41) rfl ?_
  intro T20 X20 e20
  refine g_iconst (n := 45) X20 hx (1 : Int32) (hb hby d3_44) rfl rfl ?_
  refine g_iadd (n := 46) X20 hx (hb hby d3_45) rfl ?_
  rw [own_add1]
  refine g_putF (n := 49) X20 hx hZ hown (hw _ (List.mem_of_getElem? (i := 19) rfl)) e20 C1.2.2.2 C1.1 (Or.inl (hw _ (List.mem_of_getElem? (i := 20) rfl))) (hw _ (List.mem_of_getElem? (i := 1) rfl)) (ty := .int) (by decide) rfl rfl (hb hby d3_46) rfl ?_
  intro T21 h21 X21 e21 W21
  have C2 := C1.wsize hw (n + 1) W21
  have A2 := A1.other W21 hBo
  have S2 := S1.other W21 hso
  refine g_aloadN (n := 50) X21 hx (hb hby d3_49) rfl rfl rfl ?_
  refine g_getF (n := 53) X21 hx hZ hown (hw _ (List.mem_of_getElem? (i := 19) rfl)) e21 C2.2.2.2 (hb hby d3_50) rfl ?_
  intro T22 X22 e22
  refine g_iconst (n := 54) X22 hx (2 : Int32) (hb hby d3_53) rfl rfl ?_
  refine g_imul (n := 55) X22 hx (hb hby d3_54) rfl ?_
  rw [own_dbl]
  refine g_aloadN (n := 56) X22 hx (hb hby d3_55) rfl rfl rfl ?_
  refine g_getF (n := 59) X22 hx hZ hown (hw _ (List.mem_of_getElem? (i := 12) rfl)) e22 C2.2.2.1 (hb hby d3_56) rfl ?_
  intro T23 X23 e23
  refine g_len (n := 60) X23 hx hZ e23 S2 (hb hby d3_59) rfl ?_
  refine g_icmp (n := 100) (n' := 63) X23 hx _ (own_cle _ _) (hb hby d3_60) (by decide) (by decide) rfl (fun hc => absurd hc (fun z => absurd ((own_le (by omega) (by omega)).mp z) (by omega))) (fun _ => ?_)
  refine g_aloadN (n := 64) X23 hx (hb hby d3_63) rfl rfl rfl ?_
  refine g_aloadN (n := 65) X23 hx (hb hby d3_64) rfl rfl rfl ?_
  refine g_getF (n := 68) X23 hx hZ hown (hw _ (List.mem_of_getElem? (i := 12) rfl)) e23 C2.2.2.1 (hb hby d3_65) rfl ?_
  intro T24 X24 e24
  refine g_len (n := 69) X24 hx hZ e24 S2 (hb hby d3_68) rfl ?_
  refine g_iconst (n := 70) X24 hx (2 : Int32) (hb hby d3_69) rfl rfl ?_
  refine g_imul (n := 71) X24 hx (hb hby d3_70) rfl ?_
  rw [own_dbl]
  refine g_newarray (n := 73) X24 hx hZ .int rfl (hw _ (List.mem_of_getElem? (i := 9) rfl)) e24 (sl * 2) rfl 8 (by omega) (by decide) (by decide) (by decide) (hb hby d3_71) rfl ?_
  intro T25 h25 a25 X25 e25 z25 E25 A25
  have C3 := C2.ext E25
  have A3 := A2.ext E25
  have lB := A2.lt
  have lo2 := own_elt C2.1
  have hTo : a25 ≠ o := by omega
  have hTB : cB ≠ a25 := by omega
  have k2 : h0.size ≤ h21.size := by have := K15.1; have := W16.size; have := W19.size; have := W21.size; omega
  refine g_putF (n := 76) X25 hx hZ hown (hw _ (List.mem_of_getElem? (i := 12) rfl)) e25 C3.2.2.1 C3.1 (Or.inl (hw _ (List.mem_of_getElem? (i := 13) rfl))) (hw _ (List.mem_of_getElem? (i := 1) rfl)) (ty := .array (.int)) (by decide +kernel) rfl rfl (hb hby d3_73) rfl ?_
  intro T26 h26 X26 e26 W26
  have C4 := C3.wslots hw a25 W26
  have A4 := A3.other W26 hBo
  have S4 := A25.other W26 hTo
  refine g_iconst (n := 77) X26 hx (0 : Int32) (hb hby d3_76) rfl rfl ?_
  refine g_istoreN (n := 78) X26 hx (hb hby d3_77) rfl #[.val (.ref o), .val (.int p1), .val (.int (0 : Int32))] rfl ?_
  have KK : Keep h0 h26 [o] := (((((Keep.trans (ws := [o]) (Keep.refl _ _) K15 (fun x hx => nomatch hx)).wr W16 (Or.inl (by simp))).wr W19 (Or.inr gcB)).wr W21 (Or.inl (by simp))).ext E25).wr W26 (Or.inl (by simp))
  have NN := Fr.snoc X26 (Fr.snoc X21 (Fr.snoc X19 (Fr.snoc X16 (Fr.app (Fr.nil n0) N15) go) (by omega)) go) go
  have loop : ∀ (d i : Nat) (T : State) (h : Heap) (L : List Loc), i + d = n + 1 → Stand p l e ({ frames := 2, cells := 2, slots := 12, locals := 33 } : Room) s m #[.ref o, .int p1] below meth c T L (0 + 1 + 1) (0 + 4 + 8) → T.heap = h → Fr n0 L → Keep h0 h [o] → Co Z h o cB a25 (n + 1) → Av Z h cB .int (n * 2) (fun j => .int ((fun j => if j = n then p1 else if j < n then κ j else 0) j)) → Av Z h a25 .int (sl * 2) (fun j => .int (Int32.ofNat ((own_P zs (sl * 2) i).getD j 0))) → Go p e below (Fe s ({ frames := 2, cells := 2, slots := 12, locals := 33 } : Room).cells ({ frames := 2, cells := 2, slots := 12, locals := 33 } : Room).slots) (fun v h L => v = none ∧ Fr n0 L ∧ Keep h0 h [o] ∧ ∃ cB sB, h0.size ≤ cB ∧ h0.size ≤ sB ∧ cB ≠ sB ∧ Co Z h o cB sB (n + 1) ∧ Av Z h cB .int (n * 2) (fun j => .int ((fun j => if j = n then p1 else if j < n then κ j else 0) j)) ∧ Av Z h sB .int (sl * 2) (fun j => .int (Int32.ofNat ((own_P zs (sl * 2) (n + 1)).getD j 0)))) T (mkF m 78 #[.val (.ref o), .val (.int p1), .val (.int (Int32.ofNat i))] []) := by
    intro d; induction d with
    | zero =>
      intro i T h L hd X e1 NL KL C A S
      refine g_iloadN (n := 79) X hx (hb hby d3_78) rfl rfl ?_
      refine g_aloadN (n := 80) X hx (hb hby d3_79) rfl rfl rfl ?_
      refine g_getF (n := 83) X hx hZ hown (hw _ (List.mem_of_getElem? (i := 19) rfl)) e1 C.2.2.2 (hb hby d3_80) rfl ?_
      intro T27 X27 e27
      have ei : i = n + 1 := by omega
      refine g_icmp (n := 97) (n' := 86) X27 hx _ (own_cge _ _) (hb hby d3_83) (by decide) (by decide) rfl (fun _ => ?_) (fun hc => absurd ((own_le (by omega) (by omega)).mpr (by omega)) hc)
      refine g_goto (n := 110) X27 hx (hb hby d3_97) (by decide) (by decide) ?_
      refine g_retV X27 hx hret hlk (hb hby d3_110) (Fe.of (by decide) (by decide)) ?_
      try rw [e27]
      exact ⟨rfl, NL, KL, cB, a25, gcB, by omega, hTB, C, A, by rw [← ei]; exact S⟩
    | succ d ih =>
      intro i T h L hd X e1 NL KL C A S
      refine g_iloadN (n := 79) X hx (hb hby d3_78) rfl rfl ?_
      refine g_aloadN (n := 80) X hx (hb hby d3_79) rfl rfl rfl ?_
      refine g_getF (n := 83) X hx hZ hown (hw _ (List.mem_of_getElem? (i := 19) rfl)) e1 C.2.2.2 (hb hby d3_80) rfl ?_
      intro T28 X28 e28
      refine g_icmp (n := 97) (n' := 86) X28 hx _ (own_cge _ _) (hb hby d3_83) (by decide) (by decide) rfl (fun hc => absurd hc (fun z => absurd ((own_le (by omega) (by omega)).mp z) (by omega))) (fun _ => ?_)
      refine g_aloadN (n := 87) X28 hx (hb hby d3_86) rfl rfl rfl ?_
      refine g_iloadN (n := 88) X28 hx (hb hby d3_87) rfl rfl ?_
      obtain ⟨j, hj1, hj2⟩ := hput i (by omega)
      have hln := hlen i (by omega)
      have hzi : own_z ((fun j => if j = n then p1 else if j < n then κ j else 0) i) = zs i := by
        show own_z (if i = n then p1 else if i < n then κ i else 0) = zs i
        by_cases q : i = n
        · rw [if_pos q, q]; exact hzn
        · rw [if_neg q, if_pos (by omega)]; exact hzk i (by omega)
      refine g_callP (y := ⟨"com/example/caddisfly/caddisfly/tableau/ConceptIndex", "place", "(I)V"⟩) (u := ⟨"com/example/caddisfly/caddisfly/tableau/ConceptIndex", "add", "(I)V"⟩) (n := 91) (st := []) X28 hx hZ hown e28 rfl (hw _ (List.mem_of_getElem? (i := 21) rfl)) (hw _ (List.mem_of_getElem? (i := 22) rfl)) (hw _ (List.mem_of_getElem? (i := 23) rfl)) (hw _ (List.mem_of_getElem? (i := 17) rfl)) (hw _ (List.mem_of_getElem? (i := 2) rfl)) (hw _ (List.mem_of_getElem? (i := 24) rfl)) (by decide) o C.1 [.int (Int32.ofNat i)] (rm4 l Z a0 hw o cB a25 (n + 1) (n * 2) (sl * 2) i j n0 (fun j => if j = n then p1 else if j < n then κ j else 0) (own_P zs (sl * 2) i) h C A S (by omega) (by omega) hsl2 hln.1 (fun x => Nat.le_trans (hln.2 x) (by omega)) (by rw [hzi]; exact hj1) (by omega)) pd_1 rfl (hb hby d3_88) rfl (by rw [hml]; rfl) (by decide) 0 (Nat.le_of_eq rfl) (by decide) (by decide) (by decide) ?_
      intro T29 h29 v29 L29 X29 e29 Q29
      obtain ⟨rfl, N29, K29, S5⟩ := Q29
      refine g_iinc (n := 94) X29 hx (hb hby d3_91) rfl rfl (Int32.ofNat (i + 1)) (own_inc i) #[.val (.ref o), .val (.int p1), .val (.int (Int32.ofNat (i + 1)))] rfl ?_
      refine g_goto (n := 78) X29 hx (hb hby d3_94) (by decide) (by decide) ?_
      exact ih (i + 1) T29 h29 _ (by omega) X29 e29 (Fr.app NL N29) (Keep.trans KL K29 (by intro x hx; right; rw [List.mem_singleton.mp hx]; omega)) (C.keep K29 (ninS (Ne.symm hTo) nin0)) (A.keep K29 (ninS hTB nin0)) (by rw [hj2]; exact S5)
  exact loop (n + 1) 0 _ _ _ (by omega) X26 e26 NN KK C4 A4 (S4.congr (fun x hx => by show Value.int 0 = Value.int (Int32.ofNat ((List.replicate (sl * 2) 0).getD x 0)); rw [own_rep]; rfl))
theorem d1_0 : decode prog_82_method_1_code 0 = .ok (.aload_n 0, 1) := by decide +kernel
theorem d1_1 : decode prog_82_method_1_code 1 = .ok (.invokespecial 1, 3) := by decide +kernel
theorem d1_4 : decode prog_82_method_1_code 4 = .ok (.aload_n 0, 1) := by decide +kernel
theorem d1_5 : decode prog_82_method_1_code 5 = .ok (.iload_n 1, 1) := by decide +kernel
theorem d1_6 : decode prog_82_method_1_code 6 = .ok (.newarray .int, 2) := by decide +kernel
theorem d1_8 : decode prog_82_method_1_code 8 = .ok (.putfield 7, 3) := by decide +kernel
theorem d1_11 : decode prog_82_method_1_code 11 = .ok (.aload_n 0, 1) := by decide +kernel
theorem d1_12 : decode prog_82_method_1_code 12 = .ok (.iload_n 1, 1) := by decide +kernel
theorem d1_13 : decode prog_82_method_1_code 13 = .ok (.iconst 2, 1) := by decide +kernel
theorem d1_14 : decode prog_82_method_1_code 14 = .ok (.imul, 1) := by decide +kernel
theorem d1_15 : decode prog_82_method_1_code 15 = .ok (.newarray .int, 2) := by decide +kernel
theorem d1_17 : decode prog_82_method_1_code 17 = .ok (.putfield 13, 3) := by decide +kernel
theorem d1_20 : decode prog_82_method_1_code 20 = .ok (.return_, 1) := by decide +kernel
theorem pn_1 : plainFor (⟨"com/example/caddisfly/caddisfly/tableau/ConceptIndex", "<init>", "(I)V"⟩ : MethodName) = true := by first | (exact plainFor_of_name (by first | (simp [plainName, overriddenIn, x]; done) | decide +kernel)) | decide +kernel
set_option maxRecDepth 65536 in
set_option maxHeartbeats 40000000 in
theorem rm1 (l : Launch) (Z : State) (a0 : Array Value) (hw : ∀ d ∈ tables_1, d.before a0 Z = true) (o : Nat) (cp n0 : Nat) (h0 : Heap) (hcp : cp ≤ 2) (go : n0 ≤ o) (E : Exa Z h0 o "com/example/caddisfly/caddisfly/tableau/ConceptIndex") (Fc : Fld Z h0 o "com/example/caddisfly/caddisfly/tableau/ConceptIndex" "concepts" "[I" .null) (Fs : Fld Z h0 o "com/example/caddisfly/caddisfly/tableau/ConceptIndex" "slots" "[I" .null) (Fz : Fld Z h0 o "com/example/caddisfly/caddisfly/tableau/ConceptIndex" "size" "I" (.int 0)) :
    OMet l Z (⟨"com/example/caddisfly/caddisfly/tableau/ConceptIndex", "<init>", "(I)V"⟩ : MethodName) prog_82_method_1_code 2 none [] ({ frames := 1, cells := 2, slots := 6, locals := 12 } : Room) #[.ref o, .int (Int32.ofNat cp)] h0 (fun v h L => v = none ∧ Fr n0 L ∧ Keep h0 h [o] ∧ ∃ cA sA, h0.size ≤ cA ∧ h0.size ≤ sA ∧ cA ≠ sA ∧ Co Z h o cA sA 0 ∧ Av Z h cA .int cp (fun _ => .int 0) ∧ Av Z h sA .int (cp * 2) (fun _ => .int 0)) := by
  refine own_body (Ls := #[.val (.ref o), .val (.int (Int32.ofNat cp))]) pn_1 (fun m => by first | (simp [entryFrame, mkF, argsToLocals, Value.category, maxLocals]; done) | rfl) ?_
  intro p e s m below meth c s₁ X0 hx hby hml hown hnm hret hlk hZ e0
  refine g_aloadN (n := 1) X0 hx (hb hby d1_0) rfl rfl rfl ?_
  refine g_initO (n := 4) X0 hx hZ hown (hw _ (List.mem_of_getElem? (i := 6) rfl)) (hw _ (List.mem_of_getElem? (i := 7) rfl)) (hw _ (List.mem_of_getElem? (i := 8) rfl)) e0 (by rw [hml]; rfl) (hb hby d1_1) rfl (by decide) (W := 0) (Nat.le_of_eq rfl) (by decide) ?_
  intro T11 X11 e11
  refine g_aloadN (n := 5) X11 hx (hb hby d1_4) rfl rfl rfl ?_
  refine g_iloadN (n := 6) X11 hx (hb hby d1_5) rfl rfl ?_
  refine g_newarray (n := 8) X11 hx hZ .int rfl (hw _ (List.mem_of_getElem? (i := 9) rfl)) e11 cp rfl 2 hcp (by decide) (by decide) (by decide) (hb hby d1_6) rfl ?_
  intro T12 h12 a12 X12 e12 z12 E12 A12
  have lo := own_elt E
  refine g_putF (n := 11) X12 hx hZ hown (hw _ (List.mem_of_getElem? (i := 10) rfl)) e12 (Fc.ext E12) (E.ext E12) (Or.inl (hw _ (List.mem_of_getElem? (i := 11) rfl))) (hw _ (List.mem_of_getElem? (i := 1) rfl)) (ty := .array (.int)) (by decide +kernel) rfl rfl (hb hby d1_8) rfl ?_
  intro T13 h13 X13 e13 W13
  refine g_aloadN (n := 12) X13 hx (hb hby d1_11) rfl rfl rfl ?_
  refine g_iloadN (n := 13) X13 hx (hb hby d1_12) rfl rfl ?_
  refine g_iconst (n := 14) X13 hx (2 : Int32) (hb hby d1_13) rfl rfl ?_
  refine g_imul (n := 15) X13 hx (hb hby d1_14) rfl ?_
  rw [own_dbl]
  refine g_newarray (n := 17) X13 hx hZ .int rfl (hw _ (List.mem_of_getElem? (i := 9) rfl)) e13 (cp * 2) rfl 4 (by omega) (by decide) (by decide) (by decide) (hb hby d1_15) rfl ?_
  intro T14 h14 a14 X14 e14 z14 E14 A14
  have e2 : h13.size = h12.size := W13.size
  have e1x := E12.1
  have lA := A12.lt
  refine g_putF (n := 20) X14 hx hZ hown (hw _ (List.mem_of_getElem? (i := 12) rfl)) e14 (((Fs.ext E12).other W13 (Or.inr (slot_ne (Or.inl (hw _ (List.mem_of_getElem? (i := 13) rfl))) (Or.inl (hw _ (List.mem_of_getElem? (i := 11) rfl))) (by decide) (t := .array (.int)) (t' := .array (.int)) (by decide +kernel) (by decide +kernel)))).ext E14) (((E.ext E12).wr W13).ext E14) (Or.inl (hw _ (List.mem_of_getElem? (i := 13) rfl))) (hw _ (List.mem_of_getElem? (i := 1) rfl)) (ty := .array (.int)) (by decide +kernel) rfl rfl (hb hby d1_17) rfl ?_
  intro T15 h15 X15 e15 W15
  refine g_retV X15 hx hret hlk (hb hby d1_20) (Fe.of (by decide) (by decide)) ?_
  try rw [e15]
  have hAo : a12 ≠ o := by omega
  have hSo : a14 ≠ o := by omega
  exact ⟨rfl, Fr.snoc X15 (Fr.snoc X13 (Fr.nil n0) go) go, ((((Keep.refl _ [o]).ext E12).wr W13 (Or.inl (by simp))).ext E14).wr W15 (Or.inl (by simp)), a12, a14, by omega, by omega, by omega, ⟨(((E.ext E12).wr W13).ext E14).wr W15, (((Fc.ext E12).same W13).ext E14).other W15 (Or.inr (slot_ne (Or.inl (hw _ (List.mem_of_getElem? (i := 11) rfl))) (Or.inl (hw _ (List.mem_of_getElem? (i := 13) rfl))) (by decide) (t := .array (.int)) (t' := .array (.int)) (by decide +kernel) (by decide +kernel))), (((Fs.ext E12).other W13 (Or.inr (slot_ne (Or.inl (hw _ (List.mem_of_getElem? (i := 13) rfl))) (Or.inl (hw _ (List.mem_of_getElem? (i := 11) rfl))) (by decide) (t := .array (.int)) (t' := .array (.int)) (by decide +kernel) (by decide +kernel)))).ext E14).same W15, (((Fz.ext E12).other W13 (Or.inr (slot_ne (Or.inl (hw _ (List.mem_of_getElem? (i := 20) rfl))) (Or.inl (hw _ (List.mem_of_getElem? (i := 11) rfl))) (by decide) (t := .int) (t' := .array (.int)) (by decide +kernel) (by decide +kernel)))).ext E14).other W15 (Or.inr (slot_ne (Or.inl (hw _ (List.mem_of_getElem? (i := 20) rfl))) (Or.inl (hw _ (List.mem_of_getElem? (i := 13) rfl))) (by decide) (t := .int) (t' := .array (.int)) (by decide +kernel) (by decide +kernel)))⟩, ((A12.other W13 hAo).ext E14).other W15 hAo, A14.other W15 hSo⟩
theorem pn_0 : plainFor x = true := by first | (exact plainFor_of_name (by first | (simp [plainName, overriddenIn, x]; done) | decide +kernel)) | decide +kernel
set_option maxRecDepth 65536 in
set_option maxHeartbeats 40000000 in
theorem own_tail (l : Launch) (Z : State) (a0 : Array Value) (hw : ∀ d ∈ tables_1, d.before a0 Z = true) {p : Program} {e : Env} {s : State} {m : MethodId} {below : List Frame} {meth : Method} {c : Code} (hx : p.tables.exec = Jvm.exec) (hby : c.code = code) (hml : c.maxLocals = maxLocals) (hown : s.vm.findClass x.cls = some m.cls) (hret : meth.sig.returnType = ret) (hlk : meth.locks = false) (hZ : Z.Warmed39 s.vm) (p1 p2 p3 p4 p5 p6 : Int32) (h0 : Heap) (tt : Nat) (ht : tt ≤ 7) (hab : ¬ p4 = p5) (hac : ¬ p4 = p6) (hbc : ¬ p5 = p6) (hall : ∀ sl kmax, own_pair sl kmax → own_ok (own_zs (own_z p4) (own_z p5) (own_z p6)) sl kmax = true) : ∀ (T : State) (h : Heap) (L : List Loc) (o cA sA : Nat) (n cc sl kmax : Nat) (c6 : Int32) (κ : Nat → Int32), Stand p l e room_1 s m #[.int p1, .int p2, .int p3, .int p4, .int p5, .int p6] below meth c T L 7 40 → T.heap = h → Fr h0.size L → h0.size ≤ o → h0.size ≤ sA → cA ≠ o → sA ≠ o → cA ≠ sA → Co Z h o cA sA n → Av Z h cA .int cc (fun xx => .int (κ xx)) → Av Z h sA .int sl (fun xx => .int (Int32.ofNat ((own_P (own_zs (own_z p4) (own_z p5) (own_z p6)) sl n).getD xx 0))) → n ≤ cc → n ≤ kmax → own_pair sl kmax → (∀ i, i < n → κ i = (own_abc p4 p5 p6) i) → Go p e below (Fe s room_1.cells room_1.slots) (fun v h L => v = some (.int 1) ∧ Fr h0.size L) T (mkF m 88 #[.val (.int p1), .val (.int p2), .val (.int p3), .val (.int p4), .val (.int p5), .val (.int p6), .val (.int c6), .val (.int (Int32.ofNat n)), .val (.int (Int32.ofNat tt)), .val (.ref o), .unset, .unset, .unset, .unset] []) := by
  intro T h L o cA sA n cc sl kmax c6 κ X e1 NL go gs hco hso hcs C A S hnc hnk hpr hκ
  have hok := hall sl kmax hpr
  have hsl : sl = 2 ∨ sl = 4 ∨ sl = 8 := by rcases hpr with ⟨z, _⟩ | ⟨z, _⟩ | ⟨z, _⟩ <;> omega
  have hn3 : n ≤ 3 := by rcases hpr with ⟨_, z⟩ | ⟨_, z⟩ | ⟨_, z⟩ <;> omega
  have hzk : ∀ i, i < n → own_z (κ i) = (own_zs (own_z p4) (own_z p5) (own_z p6)) i := fun i hi => by
    rw [hκ i hi]
    have : i = 0 ∨ i = 1 ∨ i = 2 := by omega
    rcases this with rfl | rfl | rfl
    · rw [own_abc0, own_zs0]
    · rw [own_abc1, own_zs1]
    · rw [own_abc2, own_zs2]
  refine g_aload (n := 90) X hx (hb hby at_88) rfl rfl rfl ?_
  refine g_iload (n := 92) X hx (hb hby at_90) rfl rfl ?_
  refine g_callV (n := 95) (st := []) X hx hZ hown e1 (hw _ (List.mem_of_getElem? (i := 41) rfl)) (hw _ (List.mem_of_getElem? (i := 42) rfl)) (notFace_of_selects (args := #[]) (mvT hZ (hw _ (List.mem_of_getElem? (i := 44) rfl)))) (hw _ (List.mem_of_getElem? (i := 44) rfl)) (hw _ (List.mem_of_getElem? (i := 43) rfl)) (hw _ (List.mem_of_getElem? (i := 2) rfl)) (hw _ (List.mem_of_getElem? (i := 45) rfl)) (by decide) o C.1 [.int (Int32.ofNat tt)] (rm8 l Z a0 hw o cA sA n cc sl tt h0.size κ (own_zs (own_z p4) (own_z p5) (own_z p6)) h C A S hnc hn3 ht hsl (fun k hk => own_ok_len hok (by omega)) (fun k hk => own_ok_cut hok (by omega)) hzk hco hso hcs go gs) pd_1 rfl (hb hby at_92) rfl (by rw [hml]; rfl) (by decide) 0 (Nat.le_of_eq rfl) (by decide) (by decide) (by decide) ?_
  intro T11 h11 v11 L11 X11 e11 Q11
  obtain ⟨rfl, N11, K11, C1, A1, S1⟩ := Q11
  refine g_iload (n := 97) X11 hx (hb hby at_95) rfl rfl ?_
  refine g_iload (n := 99) X11 hx (hb hby at_97) rfl rfl ?_
  refine g_callSP (n := 102) (st := []) X11 hx hZ hown e11 (hw _ (List.mem_of_getElem? (i := 46) rfl)) (hw _ (List.mem_of_getElem? (i := 34) rfl)) (hw _ (List.mem_of_getElem? (i := 35) rfl)) (hw _ (List.mem_of_getElem? (i := 36) rfl)) (by decide) [.int (Int32.ofNat n), .int (Int32.ofNat tt)] (rm7 l Z a0 hw (Int32.ofNat n) (Int32.ofNat tt) h11) pd_0 rfl (hb hby at_99) rfl (by rw [hml]; rfl) (by decide) 0 (Nat.le_of_eq rfl) (by decide) (by decide) (by decide) ?_
  intro T12 X12 e12
  rw [own_min_nat n tt (by omega) (by omega)]
  have hle : min n tt ≤ n := Nat.min_le_left _ _
  generalize min n tt = ee at *
  have hin : ∀ i, i < ee → κ i = (own_abc p4 p5 p6) i := fun i hi => hκ i (by omega)
  have hk0 : ∀ i, i < ee → (κ i = p4 ↔ i = 0) := fun i hi => by
    rw [hin i hi]
    have : i = 0 ∨ i = 1 ∨ i = 2 := by omega
    rcases this with rfl | rfl | rfl
    · exact ⟨fun _ => rfl, fun _ => rfl⟩
    · exact ⟨fun z => absurd z.symm hab, fun z => absurd z (by decide)⟩
    · exact ⟨fun z => absurd z.symm hac, fun z => absurd z (by decide)⟩
  have hl0 := own_ok_look (pos := 0) hok (show ee ≤ kmax by omega) (by decide)
  rw [own_zs0] at hl0
  have hk1 : ∀ i, i < ee → (κ i = p5 ↔ i = 1) := fun i hi => by
    rw [hin i hi]
    have : i = 0 ∨ i = 1 ∨ i = 2 := by omega
    rcases this with rfl | rfl | rfl
    · exact ⟨fun z => absurd z hab, fun z => absurd z (by decide)⟩
    · exact ⟨fun _ => rfl, fun _ => rfl⟩
    · exact ⟨fun z => absurd z.symm hbc, fun z => absurd z (by decide)⟩
  have hl1 := own_ok_look (pos := 1) hok (show ee ≤ kmax by omega) (by decide)
  rw [own_zs1] at hl1
  have hk2 : ∀ i, i < ee → (κ i = p6 ↔ i = 2) := fun i hi => by
    rw [hin i hi]
    have : i = 0 ∨ i = 1 ∨ i = 2 := by omega
    rcases this with rfl | rfl | rfl
    · exact ⟨fun z => absurd z hac, fun z => absurd z (by decide)⟩
    · exact ⟨fun z => absurd z hbc, fun z => absurd z (by decide)⟩
    · exact ⟨fun _ => rfl, fun _ => rfl⟩
  have hl2 := own_ok_look (pos := 2) hok (show ee ≤ kmax by omega) (by decide)
  rw [own_zs2] at hl2
  have hbe := (own_ok_len hok (show ee ≤ kmax by omega)).2
  rcases (show ee = 0 ∨ ee = 1 ∨ ee = 2 ∨ ee = 3 by omega) with rfl | rfl | rfl | rfl
  · refine g_istore (n := 104) X12 hx (hb hby at_102) rfl #[.val (.int p1), .val (.int p2), .val (.int p3), .val (.int p4), .val (.int p5), .val (.int p6), .val (.int c6), .val (.int (Int32.ofNat n)), .val (.int (Int32.ofNat tt)), .val (.ref o), .val (.int (Int32.ofNat 0)), .unset, .unset, .unset] rfl ?_
    refine g_iconst (n := 105) X12 hx (0 : Int32) (hb hby at_104) rfl rfl ?_
    refine g_iload (n := 107) X12 hx (hb hby at_105) rfl rfl ?_
    refine g_icmp (n := 114) (n' := 110) X12 hx _ (own_cge _ _) (hb hby at_107) (by decide) (by decide) rfl (fun _ => ?_) (fun hc => absurd (by decide) hc)
    refine g_iconst (n := 115) X12 hx (-1 : Int32) (hb hby at_114) rfl rfl ?_
    refine g_istore (n := 117) X12 hx (hb hby at_115) rfl #[.val (.int p1), .val (.int p2), .val (.int p3), .val (.int p4), .val (.int p5), .val (.int p6), .val (.int c6), .val (.int (Int32.ofNat n)), .val (.int (Int32.ofNat tt)), .val (.ref o), .val (.int (Int32.ofNat 0)), .val (.int (-1 : Int32)), .unset, .unset] rfl ?_
    refine g_iconst (n := 118) X12 hx (1 : Int32) (hb hby at_117) rfl rfl ?_
    refine g_iload (n := 120) X12 hx (hb hby at_118) rfl rfl ?_
    refine g_icmp (n := 127) (n' := 123) X12 hx _ (own_cge _ _) (hb hby at_120) (by decide) (by decide) rfl (fun _ => ?_) (fun hc => absurd (by decide) hc)
    refine g_iconst (n := 128) X12 hx (-1 : Int32) (hb hby at_127) rfl rfl ?_
    refine g_istore (n := 130) X12 hx (hb hby at_128) rfl #[.val (.int p1), .val (.int p2), .val (.int p3), .val (.int p4), .val (.int p5), .val (.int p6), .val (.int c6), .val (.int (Int32.ofNat n)), .val (.int (Int32.ofNat tt)), .val (.ref o), .val (.int (Int32.ofNat 0)), .val (.int (-1 : Int32)), .val (.int (-1 : Int32)), .unset] rfl ?_
    refine g_iconst (n := 131) X12 hx (2 : Int32) (hb hby at_130) rfl rfl ?_
    refine g_iload (n := 133) X12 hx (hb hby at_131) rfl rfl ?_
    refine g_icmp (n := 140) (n' := 136) X12 hx _ (own_cge _ _) (hb hby at_133) (by decide) (by decide) rfl (fun _ => ?_) (fun hc => absurd (by decide) hc)
    refine g_iconst (n := 141) X12 hx (-1 : Int32) (hb hby at_140) rfl rfl ?_
    refine g_istore (n := 143) X12 hx (hb hby at_141) rfl #[.val (.int p1), .val (.int p2), .val (.int p3), .val (.int p4), .val (.int p5), .val (.int p6), .val (.int c6), .val (.int (Int32.ofNat n)), .val (.int (Int32.ofNat tt)), .val (.ref o), .val (.int (Int32.ofNat 0)), .val (.int (-1 : Int32)), .val (.int (-1 : Int32)), .val (.int (-1 : Int32))] rfl ?_
    refine g_aload (n := 145) X12 hx (hb hby at_143) rfl rfl rfl ?_
    refine g_callVP (n := 148) (st := []) X12 hx hZ hown e12 (hw _ (List.mem_of_getElem? (i := 47) rfl)) (hw _ (List.mem_of_getElem? (i := 48) rfl)) (notFace_of_selects (args := #[]) (mvT hZ (hw _ (List.mem_of_getElem? (i := 50) rfl)))) (hw _ (List.mem_of_getElem? (i := 50) rfl)) (hw _ (List.mem_of_getElem? (i := 49) rfl)) (hw _ (List.mem_of_getElem? (i := 2) rfl)) (hw _ (List.mem_of_getElem? (i := 51) rfl)) (by decide) o C1.1 [] (rm9 l Z a0 hw o cA sA 0 h11 C1) pd_3 rfl (hb hby at_145) rfl (by rw [hml]; rfl) (by decide) 0 (Nat.le_of_eq rfl) (by decide) (by decide) (by decide) ?_
    intro T13 X13 e13
    refine g_iload (n := 150) X13 hx (hb hby at_148) rfl rfl ?_
    refine g_icmp (n := 192) (n' := 153) X13 hx _ (own_cne _ _) (hb hby at_150) (by decide) (by decide) rfl (fun hc => absurd hc (fun q => q rfl)) (fun _ => ?_)
    refine g_aload (n := 155) X13 hx (hb hby at_153) rfl rfl rfl ?_
    refine g_iloadN (n := 156) X13 hx (hb hby at_155) rfl rfl ?_
    rw [if_neg (by decide)] at hl0
    refine g_callVP (n := 159) (st := []) X13 hx hZ hown e13 (hw _ (List.mem_of_getElem? (i := 52) rfl)) (hw _ (List.mem_of_getElem? (i := 53) rfl)) (notFace_of_selects (args := #[]) (mvT hZ (hw _ (List.mem_of_getElem? (i := 55) rfl)))) (hw _ (List.mem_of_getElem? (i := 55) rfl)) (hw _ (List.mem_of_getElem? (i := 54) rfl)) (hw _ (List.mem_of_getElem? (i := 2) rfl)) (hw _ (List.mem_of_getElem? (i := 56) rfl)) (by decide) o C1.1 [.int p4] (rm10 l Z a0 hw o cA sA p4 0 cc sl 0 0 none κ (own_P (own_zs (own_z p4) (own_z p5) (own_z p6)) sl 0) h11 C1 A1 S1 (by omega) (by omega) hsl hbe hk0 hl0) pd_4 rfl (hb hby at_156) rfl (by rw [hml]; rfl) (by decide) 0 (Nat.le_of_eq rfl) (by decide) (by decide) (by decide) ?_
    intro T14 X14 e14
    refine g_iload (n := 161) X14 hx (hb hby at_159) rfl rfl ?_
    refine g_icmp (n := 192) (n' := 164) X14 hx _ (own_cne _ _) (hb hby at_161) (by decide) (by decide) rfl (fun hc => absurd hc (by decide)) (fun _ => ?_)
    refine g_aload (n := 166) X14 hx (hb hby at_164) rfl rfl rfl ?_
    refine g_iload (n := 168) X14 hx (hb hby at_166) rfl rfl ?_
    rw [if_neg (by decide)] at hl1
    refine g_callVP (n := 171) (st := []) X14 hx hZ hown e14 (hw _ (List.mem_of_getElem? (i := 52) rfl)) (hw _ (List.mem_of_getElem? (i := 53) rfl)) (notFace_of_selects (args := #[]) (mvT hZ (hw _ (List.mem_of_getElem? (i := 55) rfl)))) (hw _ (List.mem_of_getElem? (i := 55) rfl)) (hw _ (List.mem_of_getElem? (i := 54) rfl)) (hw _ (List.mem_of_getElem? (i := 2) rfl)) (hw _ (List.mem_of_getElem? (i := 56) rfl)) (by decide) o C1.1 [.int p5] (rm10 l Z a0 hw o cA sA p5 0 cc sl 1 0 none κ (own_P (own_zs (own_z p4) (own_z p5) (own_z p6)) sl 0) h11 C1 A1 S1 (by omega) (by omega) hsl hbe hk1 hl1) pd_4 rfl (hb hby at_168) rfl (by rw [hml]; rfl) (by decide) 0 (Nat.le_of_eq rfl) (by decide) (by decide) (by decide) ?_
    intro T15 X15 e15
    refine g_iload (n := 173) X15 hx (hb hby at_171) rfl rfl ?_
    refine g_icmp (n := 192) (n' := 176) X15 hx _ (own_cne _ _) (hb hby at_173) (by decide) (by decide) rfl (fun hc => absurd hc (by decide)) (fun _ => ?_)
    refine g_aload (n := 178) X15 hx (hb hby at_176) rfl rfl rfl ?_
    refine g_iload (n := 180) X15 hx (hb hby at_178) rfl rfl ?_
    rw [if_neg (by decide)] at hl2
    refine g_callVP (n := 183) (st := []) X15 hx hZ hown e15 (hw _ (List.mem_of_getElem? (i := 52) rfl)) (hw _ (List.mem_of_getElem? (i := 53) rfl)) (notFace_of_selects (args := #[]) (mvT hZ (hw _ (List.mem_of_getElem? (i := 55) rfl)))) (hw _ (List.mem_of_getElem? (i := 55) rfl)) (hw _ (List.mem_of_getElem? (i := 54) rfl)) (hw _ (List.mem_of_getElem? (i := 2) rfl)) (hw _ (List.mem_of_getElem? (i := 56) rfl)) (by decide) o C1.1 [.int p6] (rm10 l Z a0 hw o cA sA p6 0 cc sl 2 0 none κ (own_P (own_zs (own_z p4) (own_z p5) (own_z p6)) sl 0) h11 C1 A1 S1 (by omega) (by omega) hsl hbe hk2 hl2) pd_4 rfl (hb hby at_180) rfl (by rw [hml]; rfl) (by decide) 0 (Nat.le_of_eq rfl) (by decide) (by decide) (by decide) ?_
    intro T16 X16 e16
    refine g_iload (n := 185) X16 hx (hb hby at_183) rfl rfl ?_
    refine g_icmp (n := 192) (n' := 188) X16 hx _ (own_cne _ _) (hb hby at_185) (by decide) (by decide) rfl (fun hc => absurd hc (by decide)) (fun _ => ?_)
    refine g_iconst (n := 189) X16 hx (1 : Int32) (hb hby at_188) rfl rfl ?_
    refine g_goto (n := 193) X16 hx (hb hby at_189) (by decide) (by decide) ?_
    refine g_retZ X16 hx (by decide) hret hlk (hb hby at_193) (Fe.of (by decide) (by decide)) ?_
    try rw [e16]
    exact ⟨rfl, Fr.app NL N11⟩
  · refine g_istore (n := 104) X12 hx (hb hby at_102) rfl #[.val (.int p1), .val (.int p2), .val (.int p3), .val (.int p4), .val (.int p5), .val (.int p6), .val (.int c6), .val (.int (Int32.ofNat n)), .val (.int (Int32.ofNat tt)), .val (.ref o), .val (.int (Int32.ofNat 1)), .unset, .unset, .unset] rfl ?_
    refine g_iconst (n := 105) X12 hx (0 : Int32) (hb hby at_104) rfl rfl ?_
    refine g_iload (n := 107) X12 hx (hb hby at_105) rfl rfl ?_
    refine g_icmp (n := 114) (n' := 110) X12 hx _ (own_cge _ _) (hb hby at_107) (by decide) (by decide) rfl (fun hc => absurd hc (by decide)) (fun _ => ?_)
    refine g_iconst (n := 111) X12 hx (0 : Int32) (hb hby at_110) rfl rfl ?_
    refine g_goto (n := 115) X12 hx (hb hby at_111) (by decide) (by decide) ?_
    refine g_istore (n := 117) X12 hx (hb hby at_115) rfl #[.val (.int p1), .val (.int p2), .val (.int p3), .val (.int p4), .val (.int p5), .val (.int p6), .val (.int c6), .val (.int (Int32.ofNat n)), .val (.int (Int32.ofNat tt)), .val (.ref o), .val (.int (Int32.ofNat 1)), .val (.int (0 : Int32)), .unset, .unset] rfl ?_
    refine g_iconst (n := 118) X12 hx (1 : Int32) (hb hby at_117) rfl rfl ?_
    refine g_iload (n := 120) X12 hx (hb hby at_118) rfl rfl ?_
    refine g_icmp (n := 127) (n' := 123) X12 hx _ (own_cge _ _) (hb hby at_120) (by decide) (by decide) rfl (fun _ => ?_) (fun hc => absurd (by decide) hc)
    refine g_iconst (n := 128) X12 hx (-1 : Int32) (hb hby at_127) rfl rfl ?_
    refine g_istore (n := 130) X12 hx (hb hby at_128) rfl #[.val (.int p1), .val (.int p2), .val (.int p3), .val (.int p4), .val (.int p5), .val (.int p6), .val (.int c6), .val (.int (Int32.ofNat n)), .val (.int (Int32.ofNat tt)), .val (.ref o), .val (.int (Int32.ofNat 1)), .val (.int (0 : Int32)), .val (.int (-1 : Int32)), .unset] rfl ?_
    refine g_iconst (n := 131) X12 hx (2 : Int32) (hb hby at_130) rfl rfl ?_
    refine g_iload (n := 133) X12 hx (hb hby at_131) rfl rfl ?_
    refine g_icmp (n := 140) (n' := 136) X12 hx _ (own_cge _ _) (hb hby at_133) (by decide) (by decide) rfl (fun _ => ?_) (fun hc => absurd (by decide) hc)
    refine g_iconst (n := 141) X12 hx (-1 : Int32) (hb hby at_140) rfl rfl ?_
    refine g_istore (n := 143) X12 hx (hb hby at_141) rfl #[.val (.int p1), .val (.int p2), .val (.int p3), .val (.int p4), .val (.int p5), .val (.int p6), .val (.int c6), .val (.int (Int32.ofNat n)), .val (.int (Int32.ofNat tt)), .val (.ref o), .val (.int (Int32.ofNat 1)), .val (.int (0 : Int32)), .val (.int (-1 : Int32)), .val (.int (-1 : Int32))] rfl ?_
    refine g_aload (n := 145) X12 hx (hb hby at_143) rfl rfl rfl ?_
    refine g_callVP (n := 148) (st := []) X12 hx hZ hown e12 (hw _ (List.mem_of_getElem? (i := 47) rfl)) (hw _ (List.mem_of_getElem? (i := 48) rfl)) (notFace_of_selects (args := #[]) (mvT hZ (hw _ (List.mem_of_getElem? (i := 50) rfl)))) (hw _ (List.mem_of_getElem? (i := 50) rfl)) (hw _ (List.mem_of_getElem? (i := 49) rfl)) (hw _ (List.mem_of_getElem? (i := 2) rfl)) (hw _ (List.mem_of_getElem? (i := 51) rfl)) (by decide) o C1.1 [] (rm9 l Z a0 hw o cA sA 1 h11 C1) pd_3 rfl (hb hby at_145) rfl (by rw [hml]; rfl) (by decide) 0 (Nat.le_of_eq rfl) (by decide) (by decide) (by decide) ?_
    intro T17 X17 e17
    refine g_iload (n := 150) X17 hx (hb hby at_148) rfl rfl ?_
    refine g_icmp (n := 192) (n' := 153) X17 hx _ (own_cne _ _) (hb hby at_150) (by decide) (by decide) rfl (fun hc => absurd hc (fun q => q rfl)) (fun _ => ?_)
    refine g_aload (n := 155) X17 hx (hb hby at_153) rfl rfl rfl ?_
    refine g_iloadN (n := 156) X17 hx (hb hby at_155) rfl rfl ?_
    rw [if_pos (by decide)] at hl0
    refine g_callVP (n := 159) (st := []) X17 hx hZ hown e17 (hw _ (List.mem_of_getElem? (i := 52) rfl)) (hw _ (List.mem_of_getElem? (i := 53) rfl)) (notFace_of_selects (args := #[]) (mvT hZ (hw _ (List.mem_of_getElem? (i := 55) rfl)))) (hw _ (List.mem_of_getElem? (i := 55) rfl)) (hw _ (List.mem_of_getElem? (i := 54) rfl)) (hw _ (List.mem_of_getElem? (i := 2) rfl)) (hw _ (List.mem_of_getElem? (i := 56) rfl)) (by decide) o C1.1 [.int p4] (rm10 l Z a0 hw o cA sA p4 1 cc sl 0 1 (some 0) κ (own_P (own_zs (own_z p4) (own_z p5) (own_z p6)) sl 1) h11 C1 A1 S1 (by omega) (by omega) hsl hbe hk0 hl0) pd_4 rfl (hb hby at_156) rfl (by rw [hml]; rfl) (by decide) 0 (Nat.le_of_eq rfl) (by decide) (by decide) (by decide) ?_
    intro T18 X18 e18
    refine g_iload (n := 161) X18 hx (hb hby at_159) rfl rfl ?_
    refine g_icmp (n := 192) (n' := 164) X18 hx _ (own_cne _ _) (hb hby at_161) (by decide) (by decide) rfl (fun hc => absurd hc (by decide)) (fun _ => ?_)
    refine g_aload (n := 166) X18 hx (hb hby at_164) rfl rfl rfl ?_
    refine g_iload (n := 168) X18 hx (hb hby at_166) rfl rfl ?_
    rw [if_neg (by decide)] at hl1
    refine g_callVP (n := 171) (st := []) X18 hx hZ hown e18 (hw _ (List.mem_of_getElem? (i := 52) rfl)) (hw _ (List.mem_of_getElem? (i := 53) rfl)) (notFace_of_selects (args := #[]) (mvT hZ (hw _ (List.mem_of_getElem? (i := 55) rfl)))) (hw _ (List.mem_of_getElem? (i := 55) rfl)) (hw _ (List.mem_of_getElem? (i := 54) rfl)) (hw _ (List.mem_of_getElem? (i := 2) rfl)) (hw _ (List.mem_of_getElem? (i := 56) rfl)) (by decide) o C1.1 [.int p5] (rm10 l Z a0 hw o cA sA p5 1 cc sl 1 1 none κ (own_P (own_zs (own_z p4) (own_z p5) (own_z p6)) sl 1) h11 C1 A1 S1 (by omega) (by omega) hsl hbe hk1 hl1) pd_4 rfl (hb hby at_168) rfl (by rw [hml]; rfl) (by decide) 0 (Nat.le_of_eq rfl) (by decide) (by decide) (by decide) ?_
    intro T19 X19 e19
    refine g_iload (n := 173) X19 hx (hb hby at_171) rfl rfl ?_
    refine g_icmp (n := 192) (n' := 176) X19 hx _ (own_cne _ _) (hb hby at_173) (by decide) (by decide) rfl (fun hc => absurd hc (by decide)) (fun _ => ?_)
    refine g_aload (n := 178) X19 hx (hb hby at_176) rfl rfl rfl ?_
    refine g_iload (n := 180) X19 hx (hb hby at_178) rfl rfl ?_
    rw [if_neg (by decide)] at hl2
    refine g_callVP (n := 183) (st := []) X19 hx hZ hown e19 (hw _ (List.mem_of_getElem? (i := 52) rfl)) (hw _ (List.mem_of_getElem? (i := 53) rfl)) (notFace_of_selects (args := #[]) (mvT hZ (hw _ (List.mem_of_getElem? (i := 55) rfl)))) (hw _ (List.mem_of_getElem? (i := 55) rfl)) (hw _ (List.mem_of_getElem? (i := 54) rfl)) (hw _ (List.mem_of_getElem? (i := 2) rfl)) (hw _ (List.mem_of_getElem? (i := 56) rfl)) (by decide) o C1.1 [.int p6] (rm10 l Z a0 hw o cA sA p6 1 cc sl 2 1 none κ (own_P (own_zs (own_z p4) (own_z p5) (own_z p6)) sl 1) h11 C1 A1 S1 (by omega) (by omega) hsl hbe hk2 hl2) pd_4 rfl (hb hby at_180) rfl (by rw [hml]; rfl) (by decide) 0 (Nat.le_of_eq rfl) (by decide) (by decide) (by decide) ?_
    intro T20 X20 e20
    refine g_iload (n := 185) X20 hx (hb hby at_183) rfl rfl ?_
    refine g_icmp (n := 192) (n' := 188) X20 hx _ (own_cne _ _) (hb hby at_185) (by decide) (by decide) rfl (fun hc => absurd hc (by decide)) (fun _ => ?_)
    refine g_iconst (n := 189) X20 hx (1 : Int32) (hb hby at_188) rfl rfl ?_
    refine g_goto (n := 193) X20 hx (hb hby at_189) (by decide) (by decide) ?_
    refine g_retZ X20 hx (by decide) hret hlk (hb hby at_193) (Fe.of (by decide) (by decide)) ?_
    try rw [e20]
    exact ⟨rfl, Fr.app NL N11⟩
  · refine g_istore (n := 104) X12 hx (hb hby at_102) rfl #[.val (.int p1), .val (.int p2), .val (.int p3), .val (.int p4), .val (.int p5), .val (.int p6), .val (.int c6), .val (.int (Int32.ofNat n)), .val (.int (Int32.ofNat tt)), .val (.ref o), .val (.int (Int32.ofNat 2)), .unset, .unset, .unset] rfl ?_
    refine g_iconst (n := 105) X12 hx (0 : Int32) (hb hby at_104) rfl rfl ?_
    refine g_iload (n := 107) X12 hx (hb hby at_105) rfl rfl ?_
    refine g_icmp (n := 114) (n' := 110) X12 hx _ (own_cge _ _) (hb hby at_107) (by decide) (by decide) rfl (fun hc => absurd hc (by decide)) (fun _ => ?_)
    refine g_iconst (n := 111) X12 hx (0 : Int32) (hb hby at_110) rfl rfl ?_
    refine g_goto (n := 115) X12 hx (hb hby at_111) (by decide) (by decide) ?_
    refine g_istore (n := 117) X12 hx (hb hby at_115) rfl #[.val (.int p1), .val (.int p2), .val (.int p3), .val (.int p4), .val (.int p5), .val (.int p6), .val (.int c6), .val (.int (Int32.ofNat n)), .val (.int (Int32.ofNat tt)), .val (.ref o), .val (.int (Int32.ofNat 2)), .val (.int (0 : Int32)), .unset, .unset] rfl ?_
    refine g_iconst (n := 118) X12 hx (1 : Int32) (hb hby at_117) rfl rfl ?_
    refine g_iload (n := 120) X12 hx (hb hby at_118) rfl rfl ?_
    refine g_icmp (n := 127) (n' := 123) X12 hx _ (own_cge _ _) (hb hby at_120) (by decide) (by decide) rfl (fun hc => absurd hc (by decide)) (fun _ => ?_)
    refine g_iconst (n := 124) X12 hx (1 : Int32) (hb hby at_123) rfl rfl ?_
    refine g_goto (n := 128) X12 hx (hb hby at_124) (by decide) (by decide) ?_
    refine g_istore (n := 130) X12 hx (hb hby at_128) rfl #[.val (.int p1), .val (.int p2), .val (.int p3), .val (.int p4), .val (.int p5), .val (.int p6), .val (.int c6), .val (.int (Int32.ofNat n)), .val (.int (Int32.ofNat tt)), .val (.ref o), .val (.int (Int32.ofNat 2)), .val (.int (0 : Int32)), .val (.int (1 : Int32)), .unset] rfl ?_
    refine g_iconst (n := 131) X12 hx (2 : Int32) (hb hby at_130) rfl rfl ?_
    refine g_iload (n := 133) X12 hx (hb hby at_131) rfl rfl ?_
    refine g_icmp (n := 140) (n' := 136) X12 hx _ (own_cge _ _) (hb hby at_133) (by decide) (by decide) rfl (fun _ => ?_) (fun hc => absurd (by decide) hc)
    refine g_iconst (n := 141) X12 hx (-1 : Int32) (hb hby at_140) rfl rfl ?_
    refine g_istore (n := 143) X12 hx (hb hby at_141) rfl #[.val (.int p1), .val (.int p2), .val (.int p3), .val (.int p4), .val (.int p5), .val (.int p6), .val (.int c6), .val (.int (Int32.ofNat n)), .val (.int (Int32.ofNat tt)), .val (.ref o), .val (.int (Int32.ofNat 2)), .val (.int (0 : Int32)), .val (.int (1 : Int32)), .val (.int (-1 : Int32))] rfl ?_
    refine g_aload (n := 145) X12 hx (hb hby at_143) rfl rfl rfl ?_
    refine g_callVP (n := 148) (st := []) X12 hx hZ hown e12 (hw _ (List.mem_of_getElem? (i := 47) rfl)) (hw _ (List.mem_of_getElem? (i := 48) rfl)) (notFace_of_selects (args := #[]) (mvT hZ (hw _ (List.mem_of_getElem? (i := 50) rfl)))) (hw _ (List.mem_of_getElem? (i := 50) rfl)) (hw _ (List.mem_of_getElem? (i := 49) rfl)) (hw _ (List.mem_of_getElem? (i := 2) rfl)) (hw _ (List.mem_of_getElem? (i := 51) rfl)) (by decide) o C1.1 [] (rm9 l Z a0 hw o cA sA 2 h11 C1) pd_3 rfl (hb hby at_145) rfl (by rw [hml]; rfl) (by decide) 0 (Nat.le_of_eq rfl) (by decide) (by decide) (by decide) ?_
    intro T21 X21 e21
    refine g_iload (n := 150) X21 hx (hb hby at_148) rfl rfl ?_
    refine g_icmp (n := 192) (n' := 153) X21 hx _ (own_cne _ _) (hb hby at_150) (by decide) (by decide) rfl (fun hc => absurd hc (fun q => q rfl)) (fun _ => ?_)
    refine g_aload (n := 155) X21 hx (hb hby at_153) rfl rfl rfl ?_
    refine g_iloadN (n := 156) X21 hx (hb hby at_155) rfl rfl ?_
    rw [if_pos (by decide)] at hl0
    refine g_callVP (n := 159) (st := []) X21 hx hZ hown e21 (hw _ (List.mem_of_getElem? (i := 52) rfl)) (hw _ (List.mem_of_getElem? (i := 53) rfl)) (notFace_of_selects (args := #[]) (mvT hZ (hw _ (List.mem_of_getElem? (i := 55) rfl)))) (hw _ (List.mem_of_getElem? (i := 55) rfl)) (hw _ (List.mem_of_getElem? (i := 54) rfl)) (hw _ (List.mem_of_getElem? (i := 2) rfl)) (hw _ (List.mem_of_getElem? (i := 56) rfl)) (by decide) o C1.1 [.int p4] (rm10 l Z a0 hw o cA sA p4 2 cc sl 0 2 (some 0) κ (own_P (own_zs (own_z p4) (own_z p5) (own_z p6)) sl 2) h11 C1 A1 S1 (by omega) (by omega) hsl hbe hk0 hl0) pd_4 rfl (hb hby at_156) rfl (by rw [hml]; rfl) (by decide) 0 (Nat.le_of_eq rfl) (by decide) (by decide) (by decide) ?_
    intro T22 X22 e22
    refine g_iload (n := 161) X22 hx (hb hby at_159) rfl rfl ?_
    refine g_icmp (n := 192) (n' := 164) X22 hx _ (own_cne _ _) (hb hby at_161) (by decide) (by decide) rfl (fun hc => absurd hc (by decide)) (fun _ => ?_)
    refine g_aload (n := 166) X22 hx (hb hby at_164) rfl rfl rfl ?_
    refine g_iload (n := 168) X22 hx (hb hby at_166) rfl rfl ?_
    rw [if_pos (by decide)] at hl1
    refine g_callVP (n := 171) (st := []) X22 hx hZ hown e22 (hw _ (List.mem_of_getElem? (i := 52) rfl)) (hw _ (List.mem_of_getElem? (i := 53) rfl)) (notFace_of_selects (args := #[]) (mvT hZ (hw _ (List.mem_of_getElem? (i := 55) rfl)))) (hw _ (List.mem_of_getElem? (i := 55) rfl)) (hw _ (List.mem_of_getElem? (i := 54) rfl)) (hw _ (List.mem_of_getElem? (i := 2) rfl)) (hw _ (List.mem_of_getElem? (i := 56) rfl)) (by decide) o C1.1 [.int p5] (rm10 l Z a0 hw o cA sA p5 2 cc sl 1 2 (some 1) κ (own_P (own_zs (own_z p4) (own_z p5) (own_z p6)) sl 2) h11 C1 A1 S1 (by omega) (by omega) hsl hbe hk1 hl1) pd_4 rfl (hb hby at_168) rfl (by rw [hml]; rfl) (by decide) 0 (Nat.le_of_eq rfl) (by decide) (by decide) (by decide) ?_
    intro T23 X23 e23
    refine g_iload (n := 173) X23 hx (hb hby at_171) rfl rfl ?_
    refine g_icmp (n := 192) (n' := 176) X23 hx _ (own_cne _ _) (hb hby at_173) (by decide) (by decide) rfl (fun hc => absurd hc (by decide)) (fun _ => ?_)
    refine g_aload (n := 178) X23 hx (hb hby at_176) rfl rfl rfl ?_
    refine g_iload (n := 180) X23 hx (hb hby at_178) rfl rfl ?_
    rw [if_neg (by decide)] at hl2
    refine g_callVP (n := 183) (st := []) X23 hx hZ hown e23 (hw _ (List.mem_of_getElem? (i := 52) rfl)) (hw _ (List.mem_of_getElem? (i := 53) rfl)) (notFace_of_selects (args := #[]) (mvT hZ (hw _ (List.mem_of_getElem? (i := 55) rfl)))) (hw _ (List.mem_of_getElem? (i := 55) rfl)) (hw _ (List.mem_of_getElem? (i := 54) rfl)) (hw _ (List.mem_of_getElem? (i := 2) rfl)) (hw _ (List.mem_of_getElem? (i := 56) rfl)) (by decide) o C1.1 [.int p6] (rm10 l Z a0 hw o cA sA p6 2 cc sl 2 2 none κ (own_P (own_zs (own_z p4) (own_z p5) (own_z p6)) sl 2) h11 C1 A1 S1 (by omega) (by omega) hsl hbe hk2 hl2) pd_4 rfl (hb hby at_180) rfl (by rw [hml]; rfl) (by decide) 0 (Nat.le_of_eq rfl) (by decide) (by decide) (by decide) ?_
    intro T24 X24 e24
    refine g_iload (n := 185) X24 hx (hb hby at_183) rfl rfl ?_
    refine g_icmp (n := 192) (n' := 188) X24 hx _ (own_cne _ _) (hb hby at_185) (by decide) (by decide) rfl (fun hc => absurd hc (by decide)) (fun _ => ?_)
    refine g_iconst (n := 189) X24 hx (1 : Int32) (hb hby at_188) rfl rfl ?_
    refine g_goto (n := 193) X24 hx (hb hby at_189) (by decide) (by decide) ?_
    refine g_retZ X24 hx (by decide) hret hlk (hb hby at_193) (Fe.of (by decide) (by decide)) ?_
    try rw [e24]
    exact ⟨rfl, Fr.app NL N11⟩
  · refine g_istore (n := 104) X12 hx (hb hby at_102) rfl #[.val (.int p1), .val (.int p2), .val (.int p3), .val (.int p4), .val (.int p5), .val (.int p6), .val (.int c6), .val (.int (Int32.ofNat n)), .val (.int (Int32.ofNat tt)), .val (.ref o), .val (.int (Int32.ofNat 3)), .unset, .unset, .unset] rfl ?_
    refine g_iconst (n := 105) X12 hx (0 : Int32) (hb hby at_104) rfl rfl ?_
    refine g_iload (n := 107) X12 hx (hb hby at_105) rfl rfl ?_
    refine g_icmp (n := 114) (n' := 110) X12 hx _ (own_cge _ _) (hb hby at_107) (by decide) (by decide) rfl (fun hc => absurd hc (by decide)) (fun _ => ?_)
    refine g_iconst (n := 111) X12 hx (0 : Int32) (hb hby at_110) rfl rfl ?_
    refine g_goto (n := 115) X12 hx (hb hby at_111) (by decide) (by decide) ?_
    refine g_istore (n := 117) X12 hx (hb hby at_115) rfl #[.val (.int p1), .val (.int p2), .val (.int p3), .val (.int p4), .val (.int p5), .val (.int p6), .val (.int c6), .val (.int (Int32.ofNat n)), .val (.int (Int32.ofNat tt)), .val (.ref o), .val (.int (Int32.ofNat 3)), .val (.int (0 : Int32)), .unset, .unset] rfl ?_
    refine g_iconst (n := 118) X12 hx (1 : Int32) (hb hby at_117) rfl rfl ?_
    refine g_iload (n := 120) X12 hx (hb hby at_118) rfl rfl ?_
    refine g_icmp (n := 127) (n' := 123) X12 hx _ (own_cge _ _) (hb hby at_120) (by decide) (by decide) rfl (fun hc => absurd hc (by decide)) (fun _ => ?_)
    refine g_iconst (n := 124) X12 hx (1 : Int32) (hb hby at_123) rfl rfl ?_
    refine g_goto (n := 128) X12 hx (hb hby at_124) (by decide) (by decide) ?_
    refine g_istore (n := 130) X12 hx (hb hby at_128) rfl #[.val (.int p1), .val (.int p2), .val (.int p3), .val (.int p4), .val (.int p5), .val (.int p6), .val (.int c6), .val (.int (Int32.ofNat n)), .val (.int (Int32.ofNat tt)), .val (.ref o), .val (.int (Int32.ofNat 3)), .val (.int (0 : Int32)), .val (.int (1 : Int32)), .unset] rfl ?_
    refine g_iconst (n := 131) X12 hx (2 : Int32) (hb hby at_130) rfl rfl ?_
    refine g_iload (n := 133) X12 hx (hb hby at_131) rfl rfl ?_
    refine g_icmp (n := 140) (n' := 136) X12 hx _ (own_cge _ _) (hb hby at_133) (by decide) (by decide) rfl (fun hc => absurd hc (by decide)) (fun _ => ?_)
    refine g_iconst (n := 137) X12 hx (2 : Int32) (hb hby at_136) rfl rfl ?_
    refine g_goto (n := 141) X12 hx (hb hby at_137) (by decide) (by decide) ?_
    refine g_istore (n := 143) X12 hx (hb hby at_141) rfl #[.val (.int p1), .val (.int p2), .val (.int p3), .val (.int p4), .val (.int p5), .val (.int p6), .val (.int c6), .val (.int (Int32.ofNat n)), .val (.int (Int32.ofNat tt)), .val (.ref o), .val (.int (Int32.ofNat 3)), .val (.int (0 : Int32)), .val (.int (1 : Int32)), .val (.int (2 : Int32))] rfl ?_
    refine g_aload (n := 145) X12 hx (hb hby at_143) rfl rfl rfl ?_
    refine g_callVP (n := 148) (st := []) X12 hx hZ hown e12 (hw _ (List.mem_of_getElem? (i := 47) rfl)) (hw _ (List.mem_of_getElem? (i := 48) rfl)) (notFace_of_selects (args := #[]) (mvT hZ (hw _ (List.mem_of_getElem? (i := 50) rfl)))) (hw _ (List.mem_of_getElem? (i := 50) rfl)) (hw _ (List.mem_of_getElem? (i := 49) rfl)) (hw _ (List.mem_of_getElem? (i := 2) rfl)) (hw _ (List.mem_of_getElem? (i := 51) rfl)) (by decide) o C1.1 [] (rm9 l Z a0 hw o cA sA 3 h11 C1) pd_3 rfl (hb hby at_145) rfl (by rw [hml]; rfl) (by decide) 0 (Nat.le_of_eq rfl) (by decide) (by decide) (by decide) ?_
    intro T25 X25 e25
    refine g_iload (n := 150) X25 hx (hb hby at_148) rfl rfl ?_
    refine g_icmp (n := 192) (n' := 153) X25 hx _ (own_cne _ _) (hb hby at_150) (by decide) (by decide) rfl (fun hc => absurd hc (fun q => q rfl)) (fun _ => ?_)
    refine g_aload (n := 155) X25 hx (hb hby at_153) rfl rfl rfl ?_
    refine g_iloadN (n := 156) X25 hx (hb hby at_155) rfl rfl ?_
    rw [if_pos (by decide)] at hl0
    refine g_callVP (n := 159) (st := []) X25 hx hZ hown e25 (hw _ (List.mem_of_getElem? (i := 52) rfl)) (hw _ (List.mem_of_getElem? (i := 53) rfl)) (notFace_of_selects (args := #[]) (mvT hZ (hw _ (List.mem_of_getElem? (i := 55) rfl)))) (hw _ (List.mem_of_getElem? (i := 55) rfl)) (hw _ (List.mem_of_getElem? (i := 54) rfl)) (hw _ (List.mem_of_getElem? (i := 2) rfl)) (hw _ (List.mem_of_getElem? (i := 56) rfl)) (by decide) o C1.1 [.int p4] (rm10 l Z a0 hw o cA sA p4 3 cc sl 0 3 (some 0) κ (own_P (own_zs (own_z p4) (own_z p5) (own_z p6)) sl 3) h11 C1 A1 S1 (by omega) (by omega) hsl hbe hk0 hl0) pd_4 rfl (hb hby at_156) rfl (by rw [hml]; rfl) (by decide) 0 (Nat.le_of_eq rfl) (by decide) (by decide) (by decide) ?_
    intro T26 X26 e26
    refine g_iload (n := 161) X26 hx (hb hby at_159) rfl rfl ?_
    refine g_icmp (n := 192) (n' := 164) X26 hx _ (own_cne _ _) (hb hby at_161) (by decide) (by decide) rfl (fun hc => absurd hc (by decide)) (fun _ => ?_)
    refine g_aload (n := 166) X26 hx (hb hby at_164) rfl rfl rfl ?_
    refine g_iload (n := 168) X26 hx (hb hby at_166) rfl rfl ?_
    rw [if_pos (by decide)] at hl1
    refine g_callVP (n := 171) (st := []) X26 hx hZ hown e26 (hw _ (List.mem_of_getElem? (i := 52) rfl)) (hw _ (List.mem_of_getElem? (i := 53) rfl)) (notFace_of_selects (args := #[]) (mvT hZ (hw _ (List.mem_of_getElem? (i := 55) rfl)))) (hw _ (List.mem_of_getElem? (i := 55) rfl)) (hw _ (List.mem_of_getElem? (i := 54) rfl)) (hw _ (List.mem_of_getElem? (i := 2) rfl)) (hw _ (List.mem_of_getElem? (i := 56) rfl)) (by decide) o C1.1 [.int p5] (rm10 l Z a0 hw o cA sA p5 3 cc sl 1 3 (some 1) κ (own_P (own_zs (own_z p4) (own_z p5) (own_z p6)) sl 3) h11 C1 A1 S1 (by omega) (by omega) hsl hbe hk1 hl1) pd_4 rfl (hb hby at_168) rfl (by rw [hml]; rfl) (by decide) 0 (Nat.le_of_eq rfl) (by decide) (by decide) (by decide) ?_
    intro T27 X27 e27
    refine g_iload (n := 173) X27 hx (hb hby at_171) rfl rfl ?_
    refine g_icmp (n := 192) (n' := 176) X27 hx _ (own_cne _ _) (hb hby at_173) (by decide) (by decide) rfl (fun hc => absurd hc (by decide)) (fun _ => ?_)
    refine g_aload (n := 178) X27 hx (hb hby at_176) rfl rfl rfl ?_
    refine g_iload (n := 180) X27 hx (hb hby at_178) rfl rfl ?_
    rw [if_pos (by decide)] at hl2
    refine g_callVP (n := 183) (st := []) X27 hx hZ hown e27 (hw _ (List.mem_of_getElem? (i := 52) rfl)) (hw _ (List.mem_of_getElem? (i := 53) rfl)) (notFace_of_selects (args := #[]) (mvT hZ (hw _ (List.mem_of_getElem? (i := 55) rfl)))) (hw _ (List.mem_of_getElem? (i := 55) rfl)) (hw _ (List.mem_of_getElem? (i := 54) rfl)) (hw _ (List.mem_of_getElem? (i := 2) rfl)) (hw _ (List.mem_of_getElem? (i := 56) rfl)) (by decide) o C1.1 [.int p6] (rm10 l Z a0 hw o cA sA p6 3 cc sl 2 3 (some 2) κ (own_P (own_zs (own_z p4) (own_z p5) (own_z p6)) sl 3) h11 C1 A1 S1 (by omega) (by omega) hsl hbe hk2 hl2) pd_4 rfl (hb hby at_180) rfl (by rw [hml]; rfl) (by decide) 0 (Nat.le_of_eq rfl) (by decide) (by decide) (by decide) ?_
    intro T28 X28 e28
    refine g_iload (n := 185) X28 hx (hb hby at_183) rfl rfl ?_
    refine g_icmp (n := 192) (n' := 188) X28 hx _ (own_cne _ _) (hb hby at_185) (by decide) (by decide) rfl (fun hc => absurd hc (by decide)) (fun _ => ?_)
    refine g_iconst (n := 189) X28 hx (1 : Int32) (hb hby at_188) rfl rfl ?_
    refine g_goto (n := 193) X28 hx (hb hby at_189) (by decide) (by decide) ?_
    refine g_retZ X28 hx (by decide) hret hlk (hb hby at_193) (Fe.of (by decide) (by decide)) ?_
    try rw [e28]
    exact ⟨rfl, Fr.app NL N11⟩
set_option maxRecDepth 65536 in
set_option maxHeartbeats 40000000 in
theorem rm0 (l : Launch) (Z : State) (a0 : Array Value) (hw : ∀ d ∈ tables_1, d.before a0 Z = true) (p1 p2 p3 p4 p5 p6 : Int32) (h0 : Heap) :
    OMet l Z x code maxLocals ret tables_1 room_1 #[.int p1, .int p2, .int p3, .int p4, .int p5, .int p6] h0 (fun v h L => v = some (.int 1) ∧ Fr h0.size L) := by
  refine own_body (Ls := #[.val (.int p1), .val (.int p2), .val (.int p3), .val (.int p4), .val (.int p5), .val (.int p6), .unset, .unset, .unset, .unset, .unset, .unset, .unset, .unset]) pn_0 (fun m => by first | (simp [entryFrame, mkF, argsToLocals, Value.category, maxLocals]; done) | rfl) ?_
  intro p e s m below meth c s₁ X0 hx hby hml hown hnm hret hlk hZ e0
  refine g_iloadN (n := 1) X0 hx (hb hby at_0) rfl rfl ?_
  refine g_iload (n := 3) X0 hx (hb hby at_1) rfl rfl ?_
  refine g_icmp (n := 19) (n' := 6) X0 hx _ (own_ceq _ _) (hb hby at_3) (by decide) (by decide) rfl (fun hab => ?_) (fun hab => ?_)
  · refine g_iconst (n := 20) X0 hx (1 : Int32) (hb hby at_19) rfl rfl ?_
    refine g_retZ X0 hx (by decide) hret hlk (hb hby at_20) (Fe.of (by decide) (by decide)) ?_
    try rw [e0]
    exact ⟨rfl, Fr.nil _⟩
  · refine g_iloadN (n := 7) X0 hx (hb hby at_6) rfl rfl ?_
    refine g_iload (n := 9) X0 hx (hb hby at_7) rfl rfl ?_
    refine g_icmp (n := 19) (n' := 12) X0 hx _ (own_ceq _ _) (hb hby at_9) (by decide) (by decide) rfl (fun hac => ?_) (fun hac => ?_)
    · refine g_iconst (n := 20) X0 hx (1 : Int32) (hb hby at_19) rfl rfl ?_
      refine g_retZ X0 hx (by decide) hret hlk (hb hby at_20) (Fe.of (by decide) (by decide)) ?_
      try rw [e0]
      exact ⟨rfl, Fr.nil _⟩
    · refine g_iload (n := 14) X0 hx (hb hby at_12) rfl rfl ?_
      refine g_iload (n := 16) X0 hx (hb hby at_14) rfl rfl ?_
      refine g_icmp (n := 21) (n' := 19) X0 hx _ (own_cne _ _) (hb hby at_16) (by decide) (by decide) rfl (fun hbc => ?_) (fun hbc => ?_)
      · obtain ⟨tt, ht, et⟩ := own_m8 p3
        have hall : ∀ sl kmax, own_pair sl kmax → own_ok (own_zs (own_z p4) (own_z p5) (own_z p6)) sl kmax = true := fun sl kmax hp => own_all _ _ _ sl kmax (own_z_lt _) (own_z_lt _) (own_z_lt _) hp
        refine g_iconst (n := 22) X0 hx (1 : Int32) (hb hby at_21) rfl rfl ?_
        refine g_iloadN (n := 23) X0 hx (hb hby at_22) rfl rfl ?_
        refine g_iconst (n := 24) X0 hx (1 : Int32) (hb hby at_23) rfl rfl ?_
        refine g_iand (n := 25) X0 hx (hb hby at_24) rfl ?_
        have J88 := own_tail (p := p) (e := e) (below := below) l Z a0 hw hx hby hml hown hret hlk hZ p1 p2 p3 p4 p5 p6 h0 tt ht hab hac hbc hall
        rcases own_m2 p1 with hp | hp
        · rw [hp]
          refine g_ishl (n := 26) X0 hx (hb hby at_25) rfl ?_
          rw [show (1 : Int32) <<< ((0 : Int32) &&& 31) = Int32.ofNat 1 from by decide]
          refine g_istore (n := 28) X0 hx (hb hby at_26) rfl #[.val (.int p1), .val (.int p2), .val (.int p3), .val (.int p4), .val (.int p5), .val (.int p6), .val (.int (Int32.ofNat 1)), .unset, .unset, .unset, .unset, .unset, .unset, .unset] rfl ?_
          refine g_iloadN (n := 29) X0 hx (hb hby at_28) rfl rfl ?_
          refine g_iconst (n := 30) X0 hx (3 : Int32) (hb hby at_29) rfl rfl ?_
          refine g_iand (n := 31) X0 hx (hb hby at_30) rfl ?_
          rcases own_m3 p2 with hq | hq | hq | hq
          · rw [hq]
            refine g_istore (n := 33) X0 hx (hb hby at_31) rfl #[.val (.int p1), .val (.int p2), .val (.int p3), .val (.int p4), .val (.int p5), .val (.int p6), .val (.int (Int32.ofNat 1)), .val (.int (0 : Int32)), .unset, .unset, .unset, .unset, .unset, .unset] rfl ?_
            refine g_iloadN (n := 34) X0 hx (hb hby at_33) rfl rfl ?_
            refine g_bipush (n := 36) X0 hx (7 : Int32) (hb hby at_34) rfl rfl ?_
            refine g_iand (n := 37) X0 hx (hb hby at_36) rfl ?_
            rw [et]
            refine g_istore (n := 39) X0 hx (hb hby at_37) rfl #[.val (.int p1), .val (.int p2), .val (.int p3), .val (.int p4), .val (.int p5), .val (.int p6), .val (.int (Int32.ofNat 1)), .val (.int (0 : Int32)), .val (.int (Int32.ofNat tt)), .unset, .unset, .unset, .unset, .unset] rfl ?_
            refine g_new (n := 42) X0 hx hZ hown (hw _ (List.mem_of_getElem? (i := 0) rfl)) (hw _ (List.mem_of_getElem? (i := 1) rfl)) (hw _ (List.mem_of_getElem? (i := 2) rfl)) e0 (hb hby at_39) rfl (by decide) (by decide) ?_
            intro T29 h29 a29 X29 e29 z29 E29 K29 D29
            refine g_dup (n := 43) X29 hx (hb hby at_42) rfl rfl ?_
            refine g_iload (n := 45) X29 hx (hb hby at_43) rfl rfl ?_
            have go : h0.size ≤ a29 := by omega
            have zz : h0.size ≤ h29.size := E29.1
            refine g_callI (n := 48) (st := [(.ref a29)]) X29 hx hZ hown e29 rfl (hw _ (List.mem_of_getElem? (i := 3) rfl)) (hw _ (List.mem_of_getElem? (i := 4) rfl)) (hw _ (List.mem_of_getElem? (i := 2) rfl)) (hw _ (List.mem_of_getElem? (i := 5) rfl)) (by decide) a29 [.int (Int32.ofNat 1)] (rm1 l Z a0 hw a29 1 h0.size h29 (by decide) go K29 (D29 (Or.inl (hw _ (List.mem_of_getElem? (i := 11) rfl))) (ty := .array (.int)) (by decide +kernel)) (D29 (Or.inl (hw _ (List.mem_of_getElem? (i := 13) rfl))) (ty := .array (.int)) (by decide +kernel)) (D29 (Or.inl (hw _ (List.mem_of_getElem? (i := 20) rfl))) (ty := .int) (by decide +kernel))) pd_1 rfl (hb hby at_45) rfl (by rw [hml]; rfl) (by decide) 1 (Nat.le_of_eq rfl) (by decide) (by decide) (by decide) ?_
            intro T30 h30 v30 L30 X30 e30 Q30
            obtain ⟨rfl, N30, K30, cA, sA, gcA, gsA, hcs, C0, A0, S0⟩ := Q30
            refine g_astore (n := 50) X30 hx (hb hby at_48) rfl rfl #[.val (.int p1), .val (.int p2), .val (.int p3), .val (.int p4), .val (.int p5), .val (.int p6), .val (.int (Int32.ofNat 1)), .val (.int (0 : Int32)), .val (.int (Int32.ofNat tt)), .val (.ref a29), .unset, .unset, .unset, .unset] rfl ?_
            refine g_iload (n := 52) X30 hx (hb hby at_50) rfl rfl ?_
            refine g_iconst (n := 53) X30 hx (1 : Int32) (hb hby at_52) rfl rfl ?_
            have lo := own_elt K29
            have hco : cA ≠ a29 := by omega
            have hso : sA ≠ a29 := by omega
            have gc : h0.size ≤ cA := by omega
            have gs : h0.size ≤ sA := by omega
            have kz30 : h29.size ≤ h30.size := K30.1
            have S0' : Av Z h30 sA .int 2 (fun j => .int (Int32.ofNat ((own_P (own_zs (own_z p4) (own_z p5) (own_z p6)) 2 0).getD j 0))) := S0.congr (fun x hx => by show Value.int 0 = Value.int (Int32.ofNat ((List.replicate 2 0).getD x 0)); rw [own_rep]; rfl)
            refine g_icmp (n := 62) (n' := 56) X30 hx _ (own_clt _ _) (hb hby at_53) (by decide) (by decide) rfl (fun _ => ?_) (fun hc => absurd (by decide) hc)
            refine g_iload (n := 64) X30 hx (hb hby at_62) rfl rfl ?_
            refine g_iconst (n := 65) X30 hx (2 : Int32) (hb hby at_64) rfl rfl ?_
            refine g_icmp (n := 75) (n' := 68) X30 hx _ (own_clt _ _) (hb hby at_65) (by decide) (by decide) rfl (fun _ => ?_) (fun hc => absurd (by decide) hc)
            refine g_iload (n := 77) X30 hx (hb hby at_75) rfl rfl ?_
            refine g_iconst (n := 78) X30 hx (3 : Int32) (hb hby at_77) rfl rfl ?_
            refine g_icmp (n := 88) (n' := 81) X30 hx _ (own_clt _ _) (hb hby at_78) (by decide) (by decide) rfl (fun _ => ?_) (fun hc => absurd (by decide) hc)
            refine J88 _ _ _ a29 cA sA 0 1 2 1 _ (fun _ => (0 : Int32)) (own_pad X30 (by decide) (by decide)) e30 (Fr.app (Fr.nil h0.size) N30) go gs hco hso hcs C0 A0 S0' (by decide) (by decide) (by unfold own_pair; omega) (fun i hi => ?_)
            omega
          · rw [hq]
            refine g_istore (n := 33) X0 hx (hb hby at_31) rfl #[.val (.int p1), .val (.int p2), .val (.int p3), .val (.int p4), .val (.int p5), .val (.int p6), .val (.int (Int32.ofNat 1)), .val (.int (1 : Int32)), .unset, .unset, .unset, .unset, .unset, .unset] rfl ?_
            refine g_iloadN (n := 34) X0 hx (hb hby at_33) rfl rfl ?_
            refine g_bipush (n := 36) X0 hx (7 : Int32) (hb hby at_34) rfl rfl ?_
            refine g_iand (n := 37) X0 hx (hb hby at_36) rfl ?_
            rw [et]
            refine g_istore (n := 39) X0 hx (hb hby at_37) rfl #[.val (.int p1), .val (.int p2), .val (.int p3), .val (.int p4), .val (.int p5), .val (.int p6), .val (.int (Int32.ofNat 1)), .val (.int (1 : Int32)), .val (.int (Int32.ofNat tt)), .unset, .unset, .unset, .unset, .unset] rfl ?_
            refine g_new (n := 42) X0 hx hZ hown (hw _ (List.mem_of_getElem? (i := 0) rfl)) (hw _ (List.mem_of_getElem? (i := 1) rfl)) (hw _ (List.mem_of_getElem? (i := 2) rfl)) e0 (hb hby at_39) rfl (by decide) (by decide) ?_
            intro T31 h31 a31 X31 e31 z31 E31 K31 D31
            refine g_dup (n := 43) X31 hx (hb hby at_42) rfl rfl ?_
            refine g_iload (n := 45) X31 hx (hb hby at_43) rfl rfl ?_
            have go : h0.size ≤ a31 := by omega
            have zz : h0.size ≤ h31.size := E31.1
            refine g_callI (n := 48) (st := [(.ref a31)]) X31 hx hZ hown e31 rfl (hw _ (List.mem_of_getElem? (i := 3) rfl)) (hw _ (List.mem_of_getElem? (i := 4) rfl)) (hw _ (List.mem_of_getElem? (i := 2) rfl)) (hw _ (List.mem_of_getElem? (i := 5) rfl)) (by decide) a31 [.int (Int32.ofNat 1)] (rm1 l Z a0 hw a31 1 h0.size h31 (by decide) go K31 (D31 (Or.inl (hw _ (List.mem_of_getElem? (i := 11) rfl))) (ty := .array (.int)) (by decide +kernel)) (D31 (Or.inl (hw _ (List.mem_of_getElem? (i := 13) rfl))) (ty := .array (.int)) (by decide +kernel)) (D31 (Or.inl (hw _ (List.mem_of_getElem? (i := 20) rfl))) (ty := .int) (by decide +kernel))) pd_1 rfl (hb hby at_45) rfl (by rw [hml]; rfl) (by decide) 1 (Nat.le_of_eq rfl) (by decide) (by decide) (by decide) ?_
            intro T32 h32 v32 L32 X32 e32 Q32
            obtain ⟨rfl, N32, K32, cA, sA, gcA, gsA, hcs, C0, A0, S0⟩ := Q32
            refine g_astore (n := 50) X32 hx (hb hby at_48) rfl rfl #[.val (.int p1), .val (.int p2), .val (.int p3), .val (.int p4), .val (.int p5), .val (.int p6), .val (.int (Int32.ofNat 1)), .val (.int (1 : Int32)), .val (.int (Int32.ofNat tt)), .val (.ref a31), .unset, .unset, .unset, .unset] rfl ?_
            refine g_iload (n := 52) X32 hx (hb hby at_50) rfl rfl ?_
            refine g_iconst (n := 53) X32 hx (1 : Int32) (hb hby at_52) rfl rfl ?_
            have lo := own_elt K31
            have hco : cA ≠ a31 := by omega
            have hso : sA ≠ a31 := by omega
            have gc : h0.size ≤ cA := by omega
            have gs : h0.size ≤ sA := by omega
            have kz32 : h31.size ≤ h32.size := K32.1
            have S0' : Av Z h32 sA .int 2 (fun j => .int (Int32.ofNat ((own_P (own_zs (own_z p4) (own_z p5) (own_z p6)) 2 0).getD j 0))) := S0.congr (fun x hx => by show Value.int 0 = Value.int (Int32.ofNat ((List.replicate 2 0).getD x 0)); rw [own_rep]; rfl)
            refine g_icmp (n := 62) (n' := 56) X32 hx _ (own_clt _ _) (hb hby at_53) (by decide) (by decide) rfl (fun hc => absurd hc (by decide)) (fun _ => ?_)
            refine g_aload (n := 58) X32 hx (hb hby at_56) rfl rfl rfl ?_
            refine g_iloadN (n := 59) X32 hx (hb hby at_58) rfl rfl ?_
            have ok0 := hall 2 1 (by unfold own_pair; omega)
            refine g_callV (n := 62) (st := []) X32 hx hZ hown e32 (hw _ (List.mem_of_getElem? (i := 14) rfl)) (hw _ (List.mem_of_getElem? (i := 15) rfl)) (notFace_of_selects (args := #[]) (mvT hZ (hw _ (List.mem_of_getElem? (i := 17) rfl)))) (hw _ (List.mem_of_getElem? (i := 17) rfl)) (hw _ (List.mem_of_getElem? (i := 16) rfl)) (hw _ (List.mem_of_getElem? (i := 2) rfl)) (hw _ (List.mem_of_getElem? (i := 18) rfl)) (by decide) a31 C0.1 [.int p4] (rm3 l Z a0 hw a31 cA sA p4 0 1 2 h0.size (fun _ => (0 : Int32)) (own_zs (own_z p4) (own_z p5) (own_z p6)) h32 C0 A0 S0' (by decide) hco hso hcs go gc gs (by decide) (by decide) (by decide) (by decide) (own_ok_len ok0 (by decide)) (own_ok_put ok0 (by decide)) (own_zs0 _ _ _).symm) pd_1 rfl (hb hby at_59) rfl (by rw [hml]; rfl) (by decide) 0 (Nat.le_of_eq rfl) (by decide) (by decide) (by decide) ?_
            intro T33 h33 v33 L33 X33 e33 Q33
            obtain ⟨rfl, N33, K33, C33, A33, S33⟩ := Q33
            have kz33 := K33.1
            refine g_iload (n := 64) X33 hx (hb hby at_62) rfl rfl ?_
            refine g_iconst (n := 65) X33 hx (2 : Int32) (hb hby at_64) rfl rfl ?_
            refine g_icmp (n := 75) (n' := 68) X33 hx _ (own_clt _ _) (hb hby at_65) (by decide) (by decide) rfl (fun _ => ?_) (fun hc => absurd (by decide) hc)
            refine g_iload (n := 77) X33 hx (hb hby at_75) rfl rfl ?_
            refine g_iconst (n := 78) X33 hx (3 : Int32) (hb hby at_77) rfl rfl ?_
            refine g_icmp (n := 88) (n' := 81) X33 hx _ (own_clt _ _) (hb hby at_78) (by decide) (by decide) rfl (fun _ => ?_) (fun hc => absurd (by decide) hc)
            refine J88 _ _ _ a31 cA sA 1 1 2 1 _ (fun j => if j = 0 then p4 else (fun _ => (0 : Int32)) j) (own_pad X33 (by decide) (by decide)) e33 (Fr.app (Fr.app (Fr.nil h0.size) N32) N33) go gs hco hso hcs C33 A33 S33 (by decide) (by decide) (by unfold own_pair; omega) (fun i hi => ?_)
            have : i = 0 := by omega
            rcases this with rfl <;> rfl
          · rw [hq]
            refine g_istore (n := 33) X0 hx (hb hby at_31) rfl #[.val (.int p1), .val (.int p2), .val (.int p3), .val (.int p4), .val (.int p5), .val (.int p6), .val (.int (Int32.ofNat 1)), .val (.int (2 : Int32)), .unset, .unset, .unset, .unset, .unset, .unset] rfl ?_
            refine g_iloadN (n := 34) X0 hx (hb hby at_33) rfl rfl ?_
            refine g_bipush (n := 36) X0 hx (7 : Int32) (hb hby at_34) rfl rfl ?_
            refine g_iand (n := 37) X0 hx (hb hby at_36) rfl ?_
            rw [et]
            refine g_istore (n := 39) X0 hx (hb hby at_37) rfl #[.val (.int p1), .val (.int p2), .val (.int p3), .val (.int p4), .val (.int p5), .val (.int p6), .val (.int (Int32.ofNat 1)), .val (.int (2 : Int32)), .val (.int (Int32.ofNat tt)), .unset, .unset, .unset, .unset, .unset] rfl ?_
            refine g_new (n := 42) X0 hx hZ hown (hw _ (List.mem_of_getElem? (i := 0) rfl)) (hw _ (List.mem_of_getElem? (i := 1) rfl)) (hw _ (List.mem_of_getElem? (i := 2) rfl)) e0 (hb hby at_39) rfl (by decide) (by decide) ?_
            intro T34 h34 a34 X34 e34 z34 E34 K34 D34
            refine g_dup (n := 43) X34 hx (hb hby at_42) rfl rfl ?_
            refine g_iload (n := 45) X34 hx (hb hby at_43) rfl rfl ?_
            have go : h0.size ≤ a34 := by omega
            have zz : h0.size ≤ h34.size := E34.1
            refine g_callI (n := 48) (st := [(.ref a34)]) X34 hx hZ hown e34 rfl (hw _ (List.mem_of_getElem? (i := 3) rfl)) (hw _ (List.mem_of_getElem? (i := 4) rfl)) (hw _ (List.mem_of_getElem? (i := 2) rfl)) (hw _ (List.mem_of_getElem? (i := 5) rfl)) (by decide) a34 [.int (Int32.ofNat 1)] (rm1 l Z a0 hw a34 1 h0.size h34 (by decide) go K34 (D34 (Or.inl (hw _ (List.mem_of_getElem? (i := 11) rfl))) (ty := .array (.int)) (by decide +kernel)) (D34 (Or.inl (hw _ (List.mem_of_getElem? (i := 13) rfl))) (ty := .array (.int)) (by decide +kernel)) (D34 (Or.inl (hw _ (List.mem_of_getElem? (i := 20) rfl))) (ty := .int) (by decide +kernel))) pd_1 rfl (hb hby at_45) rfl (by rw [hml]; rfl) (by decide) 1 (Nat.le_of_eq rfl) (by decide) (by decide) (by decide) ?_
            intro T35 h35 v35 L35 X35 e35 Q35
            obtain ⟨rfl, N35, K35, cA, sA, gcA, gsA, hcs, C0, A0, S0⟩ := Q35
            refine g_astore (n := 50) X35 hx (hb hby at_48) rfl rfl #[.val (.int p1), .val (.int p2), .val (.int p3), .val (.int p4), .val (.int p5), .val (.int p6), .val (.int (Int32.ofNat 1)), .val (.int (2 : Int32)), .val (.int (Int32.ofNat tt)), .val (.ref a34), .unset, .unset, .unset, .unset] rfl ?_
            refine g_iload (n := 52) X35 hx (hb hby at_50) rfl rfl ?_
            refine g_iconst (n := 53) X35 hx (1 : Int32) (hb hby at_52) rfl rfl ?_
            have lo := own_elt K34
            have hco : cA ≠ a34 := by omega
            have hso : sA ≠ a34 := by omega
            have gc : h0.size ≤ cA := by omega
            have gs : h0.size ≤ sA := by omega
            have kz35 : h34.size ≤ h35.size := K35.1
            have S0' : Av Z h35 sA .int 2 (fun j => .int (Int32.ofNat ((own_P (own_zs (own_z p4) (own_z p5) (own_z p6)) 2 0).getD j 0))) := S0.congr (fun x hx => by show Value.int 0 = Value.int (Int32.ofNat ((List.replicate 2 0).getD x 0)); rw [own_rep]; rfl)
            refine g_icmp (n := 62) (n' := 56) X35 hx _ (own_clt _ _) (hb hby at_53) (by decide) (by decide) rfl (fun hc => absurd hc (by decide)) (fun _ => ?_)
            refine g_aload (n := 58) X35 hx (hb hby at_56) rfl rfl rfl ?_
            refine g_iloadN (n := 59) X35 hx (hb hby at_58) rfl rfl ?_
            have ok0 := hall 2 1 (by unfold own_pair; omega)
            refine g_callV (n := 62) (st := []) X35 hx hZ hown e35 (hw _ (List.mem_of_getElem? (i := 14) rfl)) (hw _ (List.mem_of_getElem? (i := 15) rfl)) (notFace_of_selects (args := #[]) (mvT hZ (hw _ (List.mem_of_getElem? (i := 17) rfl)))) (hw _ (List.mem_of_getElem? (i := 17) rfl)) (hw _ (List.mem_of_getElem? (i := 16) rfl)) (hw _ (List.mem_of_getElem? (i := 2) rfl)) (hw _ (List.mem_of_getElem? (i := 18) rfl)) (by decide) a34 C0.1 [.int p4] (rm3 l Z a0 hw a34 cA sA p4 0 1 2 h0.size (fun _ => (0 : Int32)) (own_zs (own_z p4) (own_z p5) (own_z p6)) h35 C0 A0 S0' (by decide) hco hso hcs go gc gs (by decide) (by decide) (by decide) (by decide) (own_ok_len ok0 (by decide)) (own_ok_put ok0 (by decide)) (own_zs0 _ _ _).symm) pd_1 rfl (hb hby at_59) rfl (by rw [hml]; rfl) (by decide) 0 (Nat.le_of_eq rfl) (by decide) (by decide) (by decide) ?_
            intro T36 h36 v36 L36 X36 e36 Q36
            obtain ⟨rfl, N36, K36, C36, A36, S36⟩ := Q36
            have kz36 := K36.1
            refine g_iload (n := 64) X36 hx (hb hby at_62) rfl rfl ?_
            refine g_iconst (n := 65) X36 hx (2 : Int32) (hb hby at_64) rfl rfl ?_
            refine g_icmp (n := 75) (n' := 68) X36 hx _ (own_clt _ _) (hb hby at_65) (by decide) (by decide) rfl (fun hc => absurd hc (by decide)) (fun _ => ?_)
            refine g_aload (n := 70) X36 hx (hb hby at_68) rfl rfl rfl ?_
            refine g_iload (n := 72) X36 hx (hb hby at_70) rfl rfl ?_
            have ok1 := hall 4 2 (by unfold own_pair; omega)
            have hz1 : ∀ k, k < 1 → own_z ((fun j => if j = 0 then p4 else (fun _ => (0 : Int32)) j) k) = (own_zs (own_z p4) (own_z p5) (own_z p6)) k := fun k hk => by
              have : k = 0 := by omega
              rcases this with rfl
              · show own_z p4 = _; rw [own_zs0]
            refine g_callV (n := 75) (st := []) X36 hx hZ hown e36 (hw _ (List.mem_of_getElem? (i := 14) rfl)) (hw _ (List.mem_of_getElem? (i := 15) rfl)) (notFace_of_selects (args := #[]) (mvT hZ (hw _ (List.mem_of_getElem? (i := 17) rfl)))) (hw _ (List.mem_of_getElem? (i := 17) rfl)) (hw _ (List.mem_of_getElem? (i := 16) rfl)) (hw _ (List.mem_of_getElem? (i := 2) rfl)) (hw _ (List.mem_of_getElem? (i := 18) rfl)) (by decide) a34 C36.1 [.int p5] (rm3g l Z a0 hw a34 cA sA p5 1 2 h0.size (fun j => if j = 0 then p4 else (fun _ => (0 : Int32)) j) (own_zs (own_z p4) (own_z p5) (own_z p6)) h36 C36 A36 S36 (by decide) hco hso hcs go gc gs (by omega) (by decide) (by decide) (by decide) (by decide) (fun k hk => own_ok_len ok1 (by omega)) (fun k hk => own_ok_put ok1 (by omega)) (own_zs1 _ _ _).symm hz1) pd_1 rfl (hb hby at_72) rfl (by rw [hml]; rfl) (by decide) 0 (Nat.le_of_eq rfl) (by decide) (by decide) (by decide) ?_
            intro T37 h37 v37 L37 X37 e37 Q37
            obtain ⟨rfl, N37, K37, cB37, sB37, gB37, gS37, hBS37, C37, A37, S37⟩ := Q37
            have lo37 := own_elt C36.1
            have hco37 : cB37 ≠ a34 := by omega
            have hso37 : sB37 ≠ a34 := by omega
            have gc37 : h0.size ≤ cB37 := by omega
            have gs37 : h0.size ≤ sB37 := by omega
            have kz37 := K37.1
            refine g_iload (n := 77) X37 hx (hb hby at_75) rfl rfl ?_
            refine g_iconst (n := 78) X37 hx (3 : Int32) (hb hby at_77) rfl rfl ?_
            refine g_icmp (n := 88) (n' := 81) X37 hx _ (own_clt _ _) (hb hby at_78) (by decide) (by decide) rfl (fun _ => ?_) (fun hc => absurd (by decide) hc)
            refine J88 _ _ _ a34 cB37 sB37 2 2 4 2 _ (fun j => if j = 1 then p5 else if j < 1 then (fun j => if j = 0 then p4 else (fun _ => (0 : Int32)) j) j else 0) (own_pad X37 (by decide) (by decide)) e37 (Fr.app (Fr.app (Fr.app (Fr.nil h0.size) N35) N36) N37) go gs37 hco37 hso37 hBS37 C37 A37 S37 (by decide) (by decide) (by unfold own_pair; omega) (fun i hi => ?_)
            have : i = 0 ∨ i = 1 := by omega
            rcases this with rfl | rfl <;> rfl
          · rw [hq]
            refine g_istore (n := 33) X0 hx (hb hby at_31) rfl #[.val (.int p1), .val (.int p2), .val (.int p3), .val (.int p4), .val (.int p5), .val (.int p6), .val (.int (Int32.ofNat 1)), .val (.int (3 : Int32)), .unset, .unset, .unset, .unset, .unset, .unset] rfl ?_
            refine g_iloadN (n := 34) X0 hx (hb hby at_33) rfl rfl ?_
            refine g_bipush (n := 36) X0 hx (7 : Int32) (hb hby at_34) rfl rfl ?_
            refine g_iand (n := 37) X0 hx (hb hby at_36) rfl ?_
            rw [et]
            refine g_istore (n := 39) X0 hx (hb hby at_37) rfl #[.val (.int p1), .val (.int p2), .val (.int p3), .val (.int p4), .val (.int p5), .val (.int p6), .val (.int (Int32.ofNat 1)), .val (.int (3 : Int32)), .val (.int (Int32.ofNat tt)), .unset, .unset, .unset, .unset, .unset] rfl ?_
            refine g_new (n := 42) X0 hx hZ hown (hw _ (List.mem_of_getElem? (i := 0) rfl)) (hw _ (List.mem_of_getElem? (i := 1) rfl)) (hw _ (List.mem_of_getElem? (i := 2) rfl)) e0 (hb hby at_39) rfl (by decide) (by decide) ?_
            intro T38 h38 a38 X38 e38 z38 E38 K38 D38
            refine g_dup (n := 43) X38 hx (hb hby at_42) rfl rfl ?_
            refine g_iload (n := 45) X38 hx (hb hby at_43) rfl rfl ?_
            have go : h0.size ≤ a38 := by omega
            have zz : h0.size ≤ h38.size := E38.1
            refine g_callI (n := 48) (st := [(.ref a38)]) X38 hx hZ hown e38 rfl (hw _ (List.mem_of_getElem? (i := 3) rfl)) (hw _ (List.mem_of_getElem? (i := 4) rfl)) (hw _ (List.mem_of_getElem? (i := 2) rfl)) (hw _ (List.mem_of_getElem? (i := 5) rfl)) (by decide) a38 [.int (Int32.ofNat 1)] (rm1 l Z a0 hw a38 1 h0.size h38 (by decide) go K38 (D38 (Or.inl (hw _ (List.mem_of_getElem? (i := 11) rfl))) (ty := .array (.int)) (by decide +kernel)) (D38 (Or.inl (hw _ (List.mem_of_getElem? (i := 13) rfl))) (ty := .array (.int)) (by decide +kernel)) (D38 (Or.inl (hw _ (List.mem_of_getElem? (i := 20) rfl))) (ty := .int) (by decide +kernel))) pd_1 rfl (hb hby at_45) rfl (by rw [hml]; rfl) (by decide) 1 (Nat.le_of_eq rfl) (by decide) (by decide) (by decide) ?_
            intro T39 h39 v39 L39 X39 e39 Q39
            obtain ⟨rfl, N39, K39, cA, sA, gcA, gsA, hcs, C0, A0, S0⟩ := Q39
            refine g_astore (n := 50) X39 hx (hb hby at_48) rfl rfl #[.val (.int p1), .val (.int p2), .val (.int p3), .val (.int p4), .val (.int p5), .val (.int p6), .val (.int (Int32.ofNat 1)), .val (.int (3 : Int32)), .val (.int (Int32.ofNat tt)), .val (.ref a38), .unset, .unset, .unset, .unset] rfl ?_
            refine g_iload (n := 52) X39 hx (hb hby at_50) rfl rfl ?_
            refine g_iconst (n := 53) X39 hx (1 : Int32) (hb hby at_52) rfl rfl ?_
            have lo := own_elt K38
            have hco : cA ≠ a38 := by omega
            have hso : sA ≠ a38 := by omega
            have gc : h0.size ≤ cA := by omega
            have gs : h0.size ≤ sA := by omega
            have kz39 : h38.size ≤ h39.size := K39.1
            have S0' : Av Z h39 sA .int 2 (fun j => .int (Int32.ofNat ((own_P (own_zs (own_z p4) (own_z p5) (own_z p6)) 2 0).getD j 0))) := S0.congr (fun x hx => by show Value.int 0 = Value.int (Int32.ofNat ((List.replicate 2 0).getD x 0)); rw [own_rep]; rfl)
            refine g_icmp (n := 62) (n' := 56) X39 hx _ (own_clt _ _) (hb hby at_53) (by decide) (by decide) rfl (fun hc => absurd hc (by decide)) (fun _ => ?_)
            refine g_aload (n := 58) X39 hx (hb hby at_56) rfl rfl rfl ?_
            refine g_iloadN (n := 59) X39 hx (hb hby at_58) rfl rfl ?_
            have ok0 := hall 2 1 (by unfold own_pair; omega)
            refine g_callV (n := 62) (st := []) X39 hx hZ hown e39 (hw _ (List.mem_of_getElem? (i := 14) rfl)) (hw _ (List.mem_of_getElem? (i := 15) rfl)) (notFace_of_selects (args := #[]) (mvT hZ (hw _ (List.mem_of_getElem? (i := 17) rfl)))) (hw _ (List.mem_of_getElem? (i := 17) rfl)) (hw _ (List.mem_of_getElem? (i := 16) rfl)) (hw _ (List.mem_of_getElem? (i := 2) rfl)) (hw _ (List.mem_of_getElem? (i := 18) rfl)) (by decide) a38 C0.1 [.int p4] (rm3 l Z a0 hw a38 cA sA p4 0 1 2 h0.size (fun _ => (0 : Int32)) (own_zs (own_z p4) (own_z p5) (own_z p6)) h39 C0 A0 S0' (by decide) hco hso hcs go gc gs (by decide) (by decide) (by decide) (by decide) (own_ok_len ok0 (by decide)) (own_ok_put ok0 (by decide)) (own_zs0 _ _ _).symm) pd_1 rfl (hb hby at_59) rfl (by rw [hml]; rfl) (by decide) 0 (Nat.le_of_eq rfl) (by decide) (by decide) (by decide) ?_
            intro T40 h40 v40 L40 X40 e40 Q40
            obtain ⟨rfl, N40, K40, C40, A40, S40⟩ := Q40
            have kz40 := K40.1
            refine g_iload (n := 64) X40 hx (hb hby at_62) rfl rfl ?_
            refine g_iconst (n := 65) X40 hx (2 : Int32) (hb hby at_64) rfl rfl ?_
            refine g_icmp (n := 75) (n' := 68) X40 hx _ (own_clt _ _) (hb hby at_65) (by decide) (by decide) rfl (fun hc => absurd hc (by decide)) (fun _ => ?_)
            refine g_aload (n := 70) X40 hx (hb hby at_68) rfl rfl rfl ?_
            refine g_iload (n := 72) X40 hx (hb hby at_70) rfl rfl ?_
            have ok1 := hall 4 2 (by unfold own_pair; omega)
            have hz1 : ∀ k, k < 1 → own_z ((fun j => if j = 0 then p4 else (fun _ => (0 : Int32)) j) k) = (own_zs (own_z p4) (own_z p5) (own_z p6)) k := fun k hk => by
              have : k = 0 := by omega
              rcases this with rfl
              · show own_z p4 = _; rw [own_zs0]
            refine g_callV (n := 75) (st := []) X40 hx hZ hown e40 (hw _ (List.mem_of_getElem? (i := 14) rfl)) (hw _ (List.mem_of_getElem? (i := 15) rfl)) (notFace_of_selects (args := #[]) (mvT hZ (hw _ (List.mem_of_getElem? (i := 17) rfl)))) (hw _ (List.mem_of_getElem? (i := 17) rfl)) (hw _ (List.mem_of_getElem? (i := 16) rfl)) (hw _ (List.mem_of_getElem? (i := 2) rfl)) (hw _ (List.mem_of_getElem? (i := 18) rfl)) (by decide) a38 C40.1 [.int p5] (rm3g l Z a0 hw a38 cA sA p5 1 2 h0.size (fun j => if j = 0 then p4 else (fun _ => (0 : Int32)) j) (own_zs (own_z p4) (own_z p5) (own_z p6)) h40 C40 A40 S40 (by decide) hco hso hcs go gc gs (by omega) (by decide) (by decide) (by decide) (by decide) (fun k hk => own_ok_len ok1 (by omega)) (fun k hk => own_ok_put ok1 (by omega)) (own_zs1 _ _ _).symm hz1) pd_1 rfl (hb hby at_72) rfl (by rw [hml]; rfl) (by decide) 0 (Nat.le_of_eq rfl) (by decide) (by decide) (by decide) ?_
            intro T41 h41 v41 L41 X41 e41 Q41
            obtain ⟨rfl, N41, K41, cB41, sB41, gB41, gS41, hBS41, C41, A41, S41⟩ := Q41
            have lo41 := own_elt C40.1
            have hco41 : cB41 ≠ a38 := by omega
            have hso41 : sB41 ≠ a38 := by omega
            have gc41 : h0.size ≤ cB41 := by omega
            have gs41 : h0.size ≤ sB41 := by omega
            have kz41 := K41.1
            refine g_iload (n := 77) X41 hx (hb hby at_75) rfl rfl ?_
            refine g_iconst (n := 78) X41 hx (3 : Int32) (hb hby at_77) rfl rfl ?_
            refine g_icmp (n := 88) (n' := 81) X41 hx _ (own_clt _ _) (hb hby at_78) (by decide) (by decide) rfl (fun hc => absurd hc (by decide)) (fun _ => ?_)
            refine g_aload (n := 83) X41 hx (hb hby at_81) rfl rfl rfl ?_
            refine g_iload (n := 85) X41 hx (hb hby at_83) rfl rfl ?_
            have ok2 := hall 8 3 (by unfold own_pair; omega)
            have hz2 : ∀ k, k < 2 → own_z ((fun j => if j = 1 then p5 else if j < 1 then (fun j => if j = 0 then p4 else (fun _ => (0 : Int32)) j) j else 0) k) = (own_zs (own_z p4) (own_z p5) (own_z p6)) k := fun k hk => by
              have : k = 0 ∨ k = 1 := by omega
              rcases this with rfl | rfl
              · show own_z p4 = _; rw [own_zs0]
              · show own_z p5 = _; rw [own_zs1]
            refine g_callV (n := 88) (st := []) X41 hx hZ hown e41 (hw _ (List.mem_of_getElem? (i := 14) rfl)) (hw _ (List.mem_of_getElem? (i := 15) rfl)) (notFace_of_selects (args := #[]) (mvT hZ (hw _ (List.mem_of_getElem? (i := 17) rfl)))) (hw _ (List.mem_of_getElem? (i := 17) rfl)) (hw _ (List.mem_of_getElem? (i := 16) rfl)) (hw _ (List.mem_of_getElem? (i := 2) rfl)) (hw _ (List.mem_of_getElem? (i := 18) rfl)) (by decide) a38 C41.1 [.int p6] (rm3g l Z a0 hw a38 cB41 sB41 p6 2 4 h0.size (fun j => if j = 1 then p5 else if j < 1 then (fun j => if j = 0 then p4 else (fun _ => (0 : Int32)) j) j else 0) (own_zs (own_z p4) (own_z p5) (own_z p6)) h41 C41 A41 S41 (by decide) hco41 hso41 hBS41 go gc41 gs41 (by omega) (by decide) (by decide) (by decide) (by decide) (fun k hk => own_ok_len ok2 (by omega)) (fun k hk => own_ok_put ok2 (by omega)) (own_zs2 _ _ _).symm hz2) pd_1 rfl (hb hby at_85) rfl (by rw [hml]; rfl) (by decide) 0 (Nat.le_of_eq rfl) (by decide) (by decide) (by decide) ?_
            intro T42 h42 v42 L42 X42 e42 Q42
            obtain ⟨rfl, N42, K42, cB42, sB42, gB42, gS42, hBS42, C42, A42, S42⟩ := Q42
            have lo42 := own_elt C41.1
            have hco42 : cB42 ≠ a38 := by omega
            have hso42 : sB42 ≠ a38 := by omega
            have gc42 : h0.size ≤ cB42 := by omega
            have gs42 : h0.size ≤ sB42 := by omega
            have kz42 := K42.1
            refine J88 _ _ _ a38 cB42 sB42 3 4 8 3 _ (fun j => if j = 2 then p6 else if j < 2 then (fun j => if j = 1 then p5 else if j < 1 then (fun j => if j = 0 then p4 else (fun _ => (0 : Int32)) j) j else 0) j else 0) (own_pad X42 (by decide) (by decide)) e42 (Fr.app (Fr.app (Fr.app (Fr.app (Fr.nil h0.size) N39) N40) N41) N42) go gs42 hco42 hso42 hBS42 C42 A42 S42 (by decide) (by decide) (by unfold own_pair; omega) (fun i hi => ?_)
            have : i = 0 ∨ i = 1 ∨ i = 2 := by omega
            rcases this with rfl | rfl | rfl <;> rfl
        · rw [hp]
          refine g_ishl (n := 26) X0 hx (hb hby at_25) rfl ?_
          rw [show (1 : Int32) <<< ((1 : Int32) &&& 31) = Int32.ofNat 2 from by decide]
          refine g_istore (n := 28) X0 hx (hb hby at_26) rfl #[.val (.int p1), .val (.int p2), .val (.int p3), .val (.int p4), .val (.int p5), .val (.int p6), .val (.int (Int32.ofNat 2)), .unset, .unset, .unset, .unset, .unset, .unset, .unset] rfl ?_
          refine g_iloadN (n := 29) X0 hx (hb hby at_28) rfl rfl ?_
          refine g_iconst (n := 30) X0 hx (3 : Int32) (hb hby at_29) rfl rfl ?_
          refine g_iand (n := 31) X0 hx (hb hby at_30) rfl ?_
          rcases own_m3 p2 with hq | hq | hq | hq
          · rw [hq]
            refine g_istore (n := 33) X0 hx (hb hby at_31) rfl #[.val (.int p1), .val (.int p2), .val (.int p3), .val (.int p4), .val (.int p5), .val (.int p6), .val (.int (Int32.ofNat 2)), .val (.int (0 : Int32)), .unset, .unset, .unset, .unset, .unset, .unset] rfl ?_
            refine g_iloadN (n := 34) X0 hx (hb hby at_33) rfl rfl ?_
            refine g_bipush (n := 36) X0 hx (7 : Int32) (hb hby at_34) rfl rfl ?_
            refine g_iand (n := 37) X0 hx (hb hby at_36) rfl ?_
            rw [et]
            refine g_istore (n := 39) X0 hx (hb hby at_37) rfl #[.val (.int p1), .val (.int p2), .val (.int p3), .val (.int p4), .val (.int p5), .val (.int p6), .val (.int (Int32.ofNat 2)), .val (.int (0 : Int32)), .val (.int (Int32.ofNat tt)), .unset, .unset, .unset, .unset, .unset] rfl ?_
            refine g_new (n := 42) X0 hx hZ hown (hw _ (List.mem_of_getElem? (i := 0) rfl)) (hw _ (List.mem_of_getElem? (i := 1) rfl)) (hw _ (List.mem_of_getElem? (i := 2) rfl)) e0 (hb hby at_39) rfl (by decide) (by decide) ?_
            intro T43 h43 a43 X43 e43 z43 E43 K43 D43
            refine g_dup (n := 43) X43 hx (hb hby at_42) rfl rfl ?_
            refine g_iload (n := 45) X43 hx (hb hby at_43) rfl rfl ?_
            have go : h0.size ≤ a43 := by omega
            have zz : h0.size ≤ h43.size := E43.1
            refine g_callI (n := 48) (st := [(.ref a43)]) X43 hx hZ hown e43 rfl (hw _ (List.mem_of_getElem? (i := 3) rfl)) (hw _ (List.mem_of_getElem? (i := 4) rfl)) (hw _ (List.mem_of_getElem? (i := 2) rfl)) (hw _ (List.mem_of_getElem? (i := 5) rfl)) (by decide) a43 [.int (Int32.ofNat 2)] (rm1 l Z a0 hw a43 2 h0.size h43 (by decide) go K43 (D43 (Or.inl (hw _ (List.mem_of_getElem? (i := 11) rfl))) (ty := .array (.int)) (by decide +kernel)) (D43 (Or.inl (hw _ (List.mem_of_getElem? (i := 13) rfl))) (ty := .array (.int)) (by decide +kernel)) (D43 (Or.inl (hw _ (List.mem_of_getElem? (i := 20) rfl))) (ty := .int) (by decide +kernel))) pd_1 rfl (hb hby at_45) rfl (by rw [hml]; rfl) (by decide) 1 (Nat.le_of_eq rfl) (by decide) (by decide) (by decide) ?_
            intro T44 h44 v44 L44 X44 e44 Q44
            obtain ⟨rfl, N44, K44, cA, sA, gcA, gsA, hcs, C0, A0, S0⟩ := Q44
            refine g_astore (n := 50) X44 hx (hb hby at_48) rfl rfl #[.val (.int p1), .val (.int p2), .val (.int p3), .val (.int p4), .val (.int p5), .val (.int p6), .val (.int (Int32.ofNat 2)), .val (.int (0 : Int32)), .val (.int (Int32.ofNat tt)), .val (.ref a43), .unset, .unset, .unset, .unset] rfl ?_
            refine g_iload (n := 52) X44 hx (hb hby at_50) rfl rfl ?_
            refine g_iconst (n := 53) X44 hx (1 : Int32) (hb hby at_52) rfl rfl ?_
            have lo := own_elt K43
            have hco : cA ≠ a43 := by omega
            have hso : sA ≠ a43 := by omega
            have gc : h0.size ≤ cA := by omega
            have gs : h0.size ≤ sA := by omega
            have kz44 : h43.size ≤ h44.size := K44.1
            have S0' : Av Z h44 sA .int 4 (fun j => .int (Int32.ofNat ((own_P (own_zs (own_z p4) (own_z p5) (own_z p6)) 4 0).getD j 0))) := S0.congr (fun x hx => by show Value.int 0 = Value.int (Int32.ofNat ((List.replicate 4 0).getD x 0)); rw [own_rep]; rfl)
            refine g_icmp (n := 62) (n' := 56) X44 hx _ (own_clt _ _) (hb hby at_53) (by decide) (by decide) rfl (fun _ => ?_) (fun hc => absurd (by decide) hc)
            refine g_iload (n := 64) X44 hx (hb hby at_62) rfl rfl ?_
            refine g_iconst (n := 65) X44 hx (2 : Int32) (hb hby at_64) rfl rfl ?_
            refine g_icmp (n := 75) (n' := 68) X44 hx _ (own_clt _ _) (hb hby at_65) (by decide) (by decide) rfl (fun _ => ?_) (fun hc => absurd (by decide) hc)
            refine g_iload (n := 77) X44 hx (hb hby at_75) rfl rfl ?_
            refine g_iconst (n := 78) X44 hx (3 : Int32) (hb hby at_77) rfl rfl ?_
            refine g_icmp (n := 88) (n' := 81) X44 hx _ (own_clt _ _) (hb hby at_78) (by decide) (by decide) rfl (fun _ => ?_) (fun hc => absurd (by decide) hc)
            refine J88 _ _ _ a43 cA sA 0 2 4 2 _ (fun _ => (0 : Int32)) (own_pad X44 (by decide) (by decide)) e44 (Fr.app (Fr.nil h0.size) N44) go gs hco hso hcs C0 A0 S0' (by decide) (by decide) (by unfold own_pair; omega) (fun i hi => ?_)
            omega
          · rw [hq]
            refine g_istore (n := 33) X0 hx (hb hby at_31) rfl #[.val (.int p1), .val (.int p2), .val (.int p3), .val (.int p4), .val (.int p5), .val (.int p6), .val (.int (Int32.ofNat 2)), .val (.int (1 : Int32)), .unset, .unset, .unset, .unset, .unset, .unset] rfl ?_
            refine g_iloadN (n := 34) X0 hx (hb hby at_33) rfl rfl ?_
            refine g_bipush (n := 36) X0 hx (7 : Int32) (hb hby at_34) rfl rfl ?_
            refine g_iand (n := 37) X0 hx (hb hby at_36) rfl ?_
            rw [et]
            refine g_istore (n := 39) X0 hx (hb hby at_37) rfl #[.val (.int p1), .val (.int p2), .val (.int p3), .val (.int p4), .val (.int p5), .val (.int p6), .val (.int (Int32.ofNat 2)), .val (.int (1 : Int32)), .val (.int (Int32.ofNat tt)), .unset, .unset, .unset, .unset, .unset] rfl ?_
            refine g_new (n := 42) X0 hx hZ hown (hw _ (List.mem_of_getElem? (i := 0) rfl)) (hw _ (List.mem_of_getElem? (i := 1) rfl)) (hw _ (List.mem_of_getElem? (i := 2) rfl)) e0 (hb hby at_39) rfl (by decide) (by decide) ?_
            intro T45 h45 a45 X45 e45 z45 E45 K45 D45
            refine g_dup (n := 43) X45 hx (hb hby at_42) rfl rfl ?_
            refine g_iload (n := 45) X45 hx (hb hby at_43) rfl rfl ?_
            have go : h0.size ≤ a45 := by omega
            have zz : h0.size ≤ h45.size := E45.1
            refine g_callI (n := 48) (st := [(.ref a45)]) X45 hx hZ hown e45 rfl (hw _ (List.mem_of_getElem? (i := 3) rfl)) (hw _ (List.mem_of_getElem? (i := 4) rfl)) (hw _ (List.mem_of_getElem? (i := 2) rfl)) (hw _ (List.mem_of_getElem? (i := 5) rfl)) (by decide) a45 [.int (Int32.ofNat 2)] (rm1 l Z a0 hw a45 2 h0.size h45 (by decide) go K45 (D45 (Or.inl (hw _ (List.mem_of_getElem? (i := 11) rfl))) (ty := .array (.int)) (by decide +kernel)) (D45 (Or.inl (hw _ (List.mem_of_getElem? (i := 13) rfl))) (ty := .array (.int)) (by decide +kernel)) (D45 (Or.inl (hw _ (List.mem_of_getElem? (i := 20) rfl))) (ty := .int) (by decide +kernel))) pd_1 rfl (hb hby at_45) rfl (by rw [hml]; rfl) (by decide) 1 (Nat.le_of_eq rfl) (by decide) (by decide) (by decide) ?_
            intro T46 h46 v46 L46 X46 e46 Q46
            obtain ⟨rfl, N46, K46, cA, sA, gcA, gsA, hcs, C0, A0, S0⟩ := Q46
            refine g_astore (n := 50) X46 hx (hb hby at_48) rfl rfl #[.val (.int p1), .val (.int p2), .val (.int p3), .val (.int p4), .val (.int p5), .val (.int p6), .val (.int (Int32.ofNat 2)), .val (.int (1 : Int32)), .val (.int (Int32.ofNat tt)), .val (.ref a45), .unset, .unset, .unset, .unset] rfl ?_
            refine g_iload (n := 52) X46 hx (hb hby at_50) rfl rfl ?_
            refine g_iconst (n := 53) X46 hx (1 : Int32) (hb hby at_52) rfl rfl ?_
            have lo := own_elt K45
            have hco : cA ≠ a45 := by omega
            have hso : sA ≠ a45 := by omega
            have gc : h0.size ≤ cA := by omega
            have gs : h0.size ≤ sA := by omega
            have kz46 : h45.size ≤ h46.size := K46.1
            have S0' : Av Z h46 sA .int 4 (fun j => .int (Int32.ofNat ((own_P (own_zs (own_z p4) (own_z p5) (own_z p6)) 4 0).getD j 0))) := S0.congr (fun x hx => by show Value.int 0 = Value.int (Int32.ofNat ((List.replicate 4 0).getD x 0)); rw [own_rep]; rfl)
            refine g_icmp (n := 62) (n' := 56) X46 hx _ (own_clt _ _) (hb hby at_53) (by decide) (by decide) rfl (fun hc => absurd hc (by decide)) (fun _ => ?_)
            refine g_aload (n := 58) X46 hx (hb hby at_56) rfl rfl rfl ?_
            refine g_iloadN (n := 59) X46 hx (hb hby at_58) rfl rfl ?_
            have ok0 := hall 4 2 (by unfold own_pair; omega)
            refine g_callV (n := 62) (st := []) X46 hx hZ hown e46 (hw _ (List.mem_of_getElem? (i := 14) rfl)) (hw _ (List.mem_of_getElem? (i := 15) rfl)) (notFace_of_selects (args := #[]) (mvT hZ (hw _ (List.mem_of_getElem? (i := 17) rfl)))) (hw _ (List.mem_of_getElem? (i := 17) rfl)) (hw _ (List.mem_of_getElem? (i := 16) rfl)) (hw _ (List.mem_of_getElem? (i := 2) rfl)) (hw _ (List.mem_of_getElem? (i := 18) rfl)) (by decide) a45 C0.1 [.int p4] (rm3 l Z a0 hw a45 cA sA p4 0 2 4 h0.size (fun _ => (0 : Int32)) (own_zs (own_z p4) (own_z p5) (own_z p6)) h46 C0 A0 S0' (by decide) hco hso hcs go gc gs (by decide) (by decide) (by decide) (by decide) (own_ok_len ok0 (by decide)) (own_ok_put ok0 (by decide)) (own_zs0 _ _ _).symm) pd_1 rfl (hb hby at_59) rfl (by rw [hml]; rfl) (by decide) 0 (Nat.le_of_eq rfl) (by decide) (by decide) (by decide) ?_
            intro T47 h47 v47 L47 X47 e47 Q47
            obtain ⟨rfl, N47, K47, C47, A47, S47⟩ := Q47
            have kz47 := K47.1
            refine g_iload (n := 64) X47 hx (hb hby at_62) rfl rfl ?_
            refine g_iconst (n := 65) X47 hx (2 : Int32) (hb hby at_64) rfl rfl ?_
            refine g_icmp (n := 75) (n' := 68) X47 hx _ (own_clt _ _) (hb hby at_65) (by decide) (by decide) rfl (fun _ => ?_) (fun hc => absurd (by decide) hc)
            refine g_iload (n := 77) X47 hx (hb hby at_75) rfl rfl ?_
            refine g_iconst (n := 78) X47 hx (3 : Int32) (hb hby at_77) rfl rfl ?_
            refine g_icmp (n := 88) (n' := 81) X47 hx _ (own_clt _ _) (hb hby at_78) (by decide) (by decide) rfl (fun _ => ?_) (fun hc => absurd (by decide) hc)
            refine J88 _ _ _ a45 cA sA 1 2 4 2 _ (fun j => if j = 0 then p4 else (fun _ => (0 : Int32)) j) (own_pad X47 (by decide) (by decide)) e47 (Fr.app (Fr.app (Fr.nil h0.size) N46) N47) go gs hco hso hcs C47 A47 S47 (by decide) (by decide) (by unfold own_pair; omega) (fun i hi => ?_)
            have : i = 0 := by omega
            rcases this with rfl <;> rfl
          · rw [hq]
            refine g_istore (n := 33) X0 hx (hb hby at_31) rfl #[.val (.int p1), .val (.int p2), .val (.int p3), .val (.int p4), .val (.int p5), .val (.int p6), .val (.int (Int32.ofNat 2)), .val (.int (2 : Int32)), .unset, .unset, .unset, .unset, .unset, .unset] rfl ?_
            refine g_iloadN (n := 34) X0 hx (hb hby at_33) rfl rfl ?_
            refine g_bipush (n := 36) X0 hx (7 : Int32) (hb hby at_34) rfl rfl ?_
            refine g_iand (n := 37) X0 hx (hb hby at_36) rfl ?_
            rw [et]
            refine g_istore (n := 39) X0 hx (hb hby at_37) rfl #[.val (.int p1), .val (.int p2), .val (.int p3), .val (.int p4), .val (.int p5), .val (.int p6), .val (.int (Int32.ofNat 2)), .val (.int (2 : Int32)), .val (.int (Int32.ofNat tt)), .unset, .unset, .unset, .unset, .unset] rfl ?_
            refine g_new (n := 42) X0 hx hZ hown (hw _ (List.mem_of_getElem? (i := 0) rfl)) (hw _ (List.mem_of_getElem? (i := 1) rfl)) (hw _ (List.mem_of_getElem? (i := 2) rfl)) e0 (hb hby at_39) rfl (by decide) (by decide) ?_
            intro T48 h48 a48 X48 e48 z48 E48 K48 D48
            refine g_dup (n := 43) X48 hx (hb hby at_42) rfl rfl ?_
            refine g_iload (n := 45) X48 hx (hb hby at_43) rfl rfl ?_
            have go : h0.size ≤ a48 := by omega
            have zz : h0.size ≤ h48.size := E48.1
            refine g_callI (n := 48) (st := [(.ref a48)]) X48 hx hZ hown e48 rfl (hw _ (List.mem_of_getElem? (i := 3) rfl)) (hw _ (List.mem_of_getElem? (i := 4) rfl)) (hw _ (List.mem_of_getElem? (i := 2) rfl)) (hw _ (List.mem_of_getElem? (i := 5) rfl)) (by decide) a48 [.int (Int32.ofNat 2)] (rm1 l Z a0 hw a48 2 h0.size h48 (by decide) go K48 (D48 (Or.inl (hw _ (List.mem_of_getElem? (i := 11) rfl))) (ty := .array (.int)) (by decide +kernel)) (D48 (Or.inl (hw _ (List.mem_of_getElem? (i := 13) rfl))) (ty := .array (.int)) (by decide +kernel)) (D48 (Or.inl (hw _ (List.mem_of_getElem? (i := 20) rfl))) (ty := .int) (by decide +kernel))) pd_1 rfl (hb hby at_45) rfl (by rw [hml]; rfl) (by decide) 1 (Nat.le_of_eq rfl) (by decide) (by decide) (by decide) ?_
            intro T49 h49 v49 L49 X49 e49 Q49
            obtain ⟨rfl, N49, K49, cA, sA, gcA, gsA, hcs, C0, A0, S0⟩ := Q49
            refine g_astore (n := 50) X49 hx (hb hby at_48) rfl rfl #[.val (.int p1), .val (.int p2), .val (.int p3), .val (.int p4), .val (.int p5), .val (.int p6), .val (.int (Int32.ofNat 2)), .val (.int (2 : Int32)), .val (.int (Int32.ofNat tt)), .val (.ref a48), .unset, .unset, .unset, .unset] rfl ?_
            refine g_iload (n := 52) X49 hx (hb hby at_50) rfl rfl ?_
            refine g_iconst (n := 53) X49 hx (1 : Int32) (hb hby at_52) rfl rfl ?_
            have lo := own_elt K48
            have hco : cA ≠ a48 := by omega
            have hso : sA ≠ a48 := by omega
            have gc : h0.size ≤ cA := by omega
            have gs : h0.size ≤ sA := by omega
            have kz49 : h48.size ≤ h49.size := K49.1
            have S0' : Av Z h49 sA .int 4 (fun j => .int (Int32.ofNat ((own_P (own_zs (own_z p4) (own_z p5) (own_z p6)) 4 0).getD j 0))) := S0.congr (fun x hx => by show Value.int 0 = Value.int (Int32.ofNat ((List.replicate 4 0).getD x 0)); rw [own_rep]; rfl)
            refine g_icmp (n := 62) (n' := 56) X49 hx _ (own_clt _ _) (hb hby at_53) (by decide) (by decide) rfl (fun hc => absurd hc (by decide)) (fun _ => ?_)
            refine g_aload (n := 58) X49 hx (hb hby at_56) rfl rfl rfl ?_
            refine g_iloadN (n := 59) X49 hx (hb hby at_58) rfl rfl ?_
            have ok0 := hall 4 2 (by unfold own_pair; omega)
            refine g_callV (n := 62) (st := []) X49 hx hZ hown e49 (hw _ (List.mem_of_getElem? (i := 14) rfl)) (hw _ (List.mem_of_getElem? (i := 15) rfl)) (notFace_of_selects (args := #[]) (mvT hZ (hw _ (List.mem_of_getElem? (i := 17) rfl)))) (hw _ (List.mem_of_getElem? (i := 17) rfl)) (hw _ (List.mem_of_getElem? (i := 16) rfl)) (hw _ (List.mem_of_getElem? (i := 2) rfl)) (hw _ (List.mem_of_getElem? (i := 18) rfl)) (by decide) a48 C0.1 [.int p4] (rm3 l Z a0 hw a48 cA sA p4 0 2 4 h0.size (fun _ => (0 : Int32)) (own_zs (own_z p4) (own_z p5) (own_z p6)) h49 C0 A0 S0' (by decide) hco hso hcs go gc gs (by decide) (by decide) (by decide) (by decide) (own_ok_len ok0 (by decide)) (own_ok_put ok0 (by decide)) (own_zs0 _ _ _).symm) pd_1 rfl (hb hby at_59) rfl (by rw [hml]; rfl) (by decide) 0 (Nat.le_of_eq rfl) (by decide) (by decide) (by decide) ?_
            intro T50 h50 v50 L50 X50 e50 Q50
            obtain ⟨rfl, N50, K50, C50, A50, S50⟩ := Q50
            have kz50 := K50.1
            refine g_iload (n := 64) X50 hx (hb hby at_62) rfl rfl ?_
            refine g_iconst (n := 65) X50 hx (2 : Int32) (hb hby at_64) rfl rfl ?_
            refine g_icmp (n := 75) (n' := 68) X50 hx _ (own_clt _ _) (hb hby at_65) (by decide) (by decide) rfl (fun hc => absurd hc (by decide)) (fun _ => ?_)
            refine g_aload (n := 70) X50 hx (hb hby at_68) rfl rfl rfl ?_
            refine g_iload (n := 72) X50 hx (hb hby at_70) rfl rfl ?_
            have ok1 := hall 4 2 (by unfold own_pair; omega)
            refine g_callV (n := 75) (st := []) X50 hx hZ hown e50 (hw _ (List.mem_of_getElem? (i := 14) rfl)) (hw _ (List.mem_of_getElem? (i := 15) rfl)) (notFace_of_selects (args := #[]) (mvT hZ (hw _ (List.mem_of_getElem? (i := 17) rfl)))) (hw _ (List.mem_of_getElem? (i := 17) rfl)) (hw _ (List.mem_of_getElem? (i := 16) rfl)) (hw _ (List.mem_of_getElem? (i := 2) rfl)) (hw _ (List.mem_of_getElem? (i := 18) rfl)) (by decide) a48 C50.1 [.int p5] (rm3 l Z a0 hw a48 cA sA p5 1 2 4 h0.size (fun j => if j = 0 then p4 else (fun _ => (0 : Int32)) j) (own_zs (own_z p4) (own_z p5) (own_z p6)) h50 C50 A50 S50 (by decide) hco hso hcs go gc gs (by decide) (by decide) (by decide) (by decide) (own_ok_len ok1 (by decide)) (own_ok_put ok1 (by decide)) (own_zs1 _ _ _).symm) pd_1 rfl (hb hby at_72) rfl (by rw [hml]; rfl) (by decide) 0 (Nat.le_of_eq rfl) (by decide) (by decide) (by decide) ?_
            intro T51 h51 v51 L51 X51 e51 Q51
            obtain ⟨rfl, N51, K51, C51, A51, S51⟩ := Q51
            have kz51 := K51.1
            refine g_iload (n := 77) X51 hx (hb hby at_75) rfl rfl ?_
            refine g_iconst (n := 78) X51 hx (3 : Int32) (hb hby at_77) rfl rfl ?_
            refine g_icmp (n := 88) (n' := 81) X51 hx _ (own_clt _ _) (hb hby at_78) (by decide) (by decide) rfl (fun _ => ?_) (fun hc => absurd (by decide) hc)
            refine J88 _ _ _ a48 cA sA 2 2 4 2 _ (fun j => if j = 1 then p5 else (fun j => if j = 0 then p4 else (fun _ => (0 : Int32)) j) j) (own_pad X51 (by decide) (by decide)) e51 (Fr.app (Fr.app (Fr.app (Fr.nil h0.size) N49) N50) N51) go gs hco hso hcs C51 A51 S51 (by decide) (by decide) (by unfold own_pair; omega) (fun i hi => ?_)
            have : i = 0 ∨ i = 1 := by omega
            rcases this with rfl | rfl <;> rfl
          · rw [hq]
            refine g_istore (n := 33) X0 hx (hb hby at_31) rfl #[.val (.int p1), .val (.int p2), .val (.int p3), .val (.int p4), .val (.int p5), .val (.int p6), .val (.int (Int32.ofNat 2)), .val (.int (3 : Int32)), .unset, .unset, .unset, .unset, .unset, .unset] rfl ?_
            refine g_iloadN (n := 34) X0 hx (hb hby at_33) rfl rfl ?_
            refine g_bipush (n := 36) X0 hx (7 : Int32) (hb hby at_34) rfl rfl ?_
            refine g_iand (n := 37) X0 hx (hb hby at_36) rfl ?_
            rw [et]
            refine g_istore (n := 39) X0 hx (hb hby at_37) rfl #[.val (.int p1), .val (.int p2), .val (.int p3), .val (.int p4), .val (.int p5), .val (.int p6), .val (.int (Int32.ofNat 2)), .val (.int (3 : Int32)), .val (.int (Int32.ofNat tt)), .unset, .unset, .unset, .unset, .unset] rfl ?_
            refine g_new (n := 42) X0 hx hZ hown (hw _ (List.mem_of_getElem? (i := 0) rfl)) (hw _ (List.mem_of_getElem? (i := 1) rfl)) (hw _ (List.mem_of_getElem? (i := 2) rfl)) e0 (hb hby at_39) rfl (by decide) (by decide) ?_
            intro T52 h52 a52 X52 e52 z52 E52 K52 D52
            refine g_dup (n := 43) X52 hx (hb hby at_42) rfl rfl ?_
            refine g_iload (n := 45) X52 hx (hb hby at_43) rfl rfl ?_
            have go : h0.size ≤ a52 := by omega
            have zz : h0.size ≤ h52.size := E52.1
            refine g_callI (n := 48) (st := [(.ref a52)]) X52 hx hZ hown e52 rfl (hw _ (List.mem_of_getElem? (i := 3) rfl)) (hw _ (List.mem_of_getElem? (i := 4) rfl)) (hw _ (List.mem_of_getElem? (i := 2) rfl)) (hw _ (List.mem_of_getElem? (i := 5) rfl)) (by decide) a52 [.int (Int32.ofNat 2)] (rm1 l Z a0 hw a52 2 h0.size h52 (by decide) go K52 (D52 (Or.inl (hw _ (List.mem_of_getElem? (i := 11) rfl))) (ty := .array (.int)) (by decide +kernel)) (D52 (Or.inl (hw _ (List.mem_of_getElem? (i := 13) rfl))) (ty := .array (.int)) (by decide +kernel)) (D52 (Or.inl (hw _ (List.mem_of_getElem? (i := 20) rfl))) (ty := .int) (by decide +kernel))) pd_1 rfl (hb hby at_45) rfl (by rw [hml]; rfl) (by decide) 1 (Nat.le_of_eq rfl) (by decide) (by decide) (by decide) ?_
            intro T53 h53 v53 L53 X53 e53 Q53
            obtain ⟨rfl, N53, K53, cA, sA, gcA, gsA, hcs, C0, A0, S0⟩ := Q53
            refine g_astore (n := 50) X53 hx (hb hby at_48) rfl rfl #[.val (.int p1), .val (.int p2), .val (.int p3), .val (.int p4), .val (.int p5), .val (.int p6), .val (.int (Int32.ofNat 2)), .val (.int (3 : Int32)), .val (.int (Int32.ofNat tt)), .val (.ref a52), .unset, .unset, .unset, .unset] rfl ?_
            refine g_iload (n := 52) X53 hx (hb hby at_50) rfl rfl ?_
            refine g_iconst (n := 53) X53 hx (1 : Int32) (hb hby at_52) rfl rfl ?_
            have lo := own_elt K52
            have hco : cA ≠ a52 := by omega
            have hso : sA ≠ a52 := by omega
            have gc : h0.size ≤ cA := by omega
            have gs : h0.size ≤ sA := by omega
            have kz53 : h52.size ≤ h53.size := K53.1
            have S0' : Av Z h53 sA .int 4 (fun j => .int (Int32.ofNat ((own_P (own_zs (own_z p4) (own_z p5) (own_z p6)) 4 0).getD j 0))) := S0.congr (fun x hx => by show Value.int 0 = Value.int (Int32.ofNat ((List.replicate 4 0).getD x 0)); rw [own_rep]; rfl)
            refine g_icmp (n := 62) (n' := 56) X53 hx _ (own_clt _ _) (hb hby at_53) (by decide) (by decide) rfl (fun hc => absurd hc (by decide)) (fun _ => ?_)
            refine g_aload (n := 58) X53 hx (hb hby at_56) rfl rfl rfl ?_
            refine g_iloadN (n := 59) X53 hx (hb hby at_58) rfl rfl ?_
            have ok0 := hall 4 2 (by unfold own_pair; omega)
            refine g_callV (n := 62) (st := []) X53 hx hZ hown e53 (hw _ (List.mem_of_getElem? (i := 14) rfl)) (hw _ (List.mem_of_getElem? (i := 15) rfl)) (notFace_of_selects (args := #[]) (mvT hZ (hw _ (List.mem_of_getElem? (i := 17) rfl)))) (hw _ (List.mem_of_getElem? (i := 17) rfl)) (hw _ (List.mem_of_getElem? (i := 16) rfl)) (hw _ (List.mem_of_getElem? (i := 2) rfl)) (hw _ (List.mem_of_getElem? (i := 18) rfl)) (by decide) a52 C0.1 [.int p4] (rm3 l Z a0 hw a52 cA sA p4 0 2 4 h0.size (fun _ => (0 : Int32)) (own_zs (own_z p4) (own_z p5) (own_z p6)) h53 C0 A0 S0' (by decide) hco hso hcs go gc gs (by decide) (by decide) (by decide) (by decide) (own_ok_len ok0 (by decide)) (own_ok_put ok0 (by decide)) (own_zs0 _ _ _).symm) pd_1 rfl (hb hby at_59) rfl (by rw [hml]; rfl) (by decide) 0 (Nat.le_of_eq rfl) (by decide) (by decide) (by decide) ?_
            intro T54 h54 v54 L54 X54 e54 Q54
            obtain ⟨rfl, N54, K54, C54, A54, S54⟩ := Q54
            have kz54 := K54.1
            refine g_iload (n := 64) X54 hx (hb hby at_62) rfl rfl ?_
            refine g_iconst (n := 65) X54 hx (2 : Int32) (hb hby at_64) rfl rfl ?_
            refine g_icmp (n := 75) (n' := 68) X54 hx _ (own_clt _ _) (hb hby at_65) (by decide) (by decide) rfl (fun hc => absurd hc (by decide)) (fun _ => ?_)
            refine g_aload (n := 70) X54 hx (hb hby at_68) rfl rfl rfl ?_
            refine g_iload (n := 72) X54 hx (hb hby at_70) rfl rfl ?_
            have ok1 := hall 4 2 (by unfold own_pair; omega)
            refine g_callV (n := 75) (st := []) X54 hx hZ hown e54 (hw _ (List.mem_of_getElem? (i := 14) rfl)) (hw _ (List.mem_of_getElem? (i := 15) rfl)) (notFace_of_selects (args := #[]) (mvT hZ (hw _ (List.mem_of_getElem? (i := 17) rfl)))) (hw _ (List.mem_of_getElem? (i := 17) rfl)) (hw _ (List.mem_of_getElem? (i := 16) rfl)) (hw _ (List.mem_of_getElem? (i := 2) rfl)) (hw _ (List.mem_of_getElem? (i := 18) rfl)) (by decide) a52 C54.1 [.int p5] (rm3 l Z a0 hw a52 cA sA p5 1 2 4 h0.size (fun j => if j = 0 then p4 else (fun _ => (0 : Int32)) j) (own_zs (own_z p4) (own_z p5) (own_z p6)) h54 C54 A54 S54 (by decide) hco hso hcs go gc gs (by decide) (by decide) (by decide) (by decide) (own_ok_len ok1 (by decide)) (own_ok_put ok1 (by decide)) (own_zs1 _ _ _).symm) pd_1 rfl (hb hby at_72) rfl (by rw [hml]; rfl) (by decide) 0 (Nat.le_of_eq rfl) (by decide) (by decide) (by decide) ?_
            intro T55 h55 v55 L55 X55 e55 Q55
            obtain ⟨rfl, N55, K55, C55, A55, S55⟩ := Q55
            have kz55 := K55.1
            refine g_iload (n := 77) X55 hx (hb hby at_75) rfl rfl ?_
            refine g_iconst (n := 78) X55 hx (3 : Int32) (hb hby at_77) rfl rfl ?_
            refine g_icmp (n := 88) (n' := 81) X55 hx _ (own_clt _ _) (hb hby at_78) (by decide) (by decide) rfl (fun hc => absurd hc (by decide)) (fun _ => ?_)
            refine g_aload (n := 83) X55 hx (hb hby at_81) rfl rfl rfl ?_
            refine g_iload (n := 85) X55 hx (hb hby at_83) rfl rfl ?_
            have ok2 := hall 8 3 (by unfold own_pair; omega)
            have hz2 : ∀ k, k < 2 → own_z ((fun j => if j = 1 then p5 else (fun j => if j = 0 then p4 else (fun _ => (0 : Int32)) j) j) k) = (own_zs (own_z p4) (own_z p5) (own_z p6)) k := fun k hk => by
              have : k = 0 ∨ k = 1 := by omega
              rcases this with rfl | rfl
              · show own_z p4 = _; rw [own_zs0]
              · show own_z p5 = _; rw [own_zs1]
            refine g_callV (n := 88) (st := []) X55 hx hZ hown e55 (hw _ (List.mem_of_getElem? (i := 14) rfl)) (hw _ (List.mem_of_getElem? (i := 15) rfl)) (notFace_of_selects (args := #[]) (mvT hZ (hw _ (List.mem_of_getElem? (i := 17) rfl)))) (hw _ (List.mem_of_getElem? (i := 17) rfl)) (hw _ (List.mem_of_getElem? (i := 16) rfl)) (hw _ (List.mem_of_getElem? (i := 2) rfl)) (hw _ (List.mem_of_getElem? (i := 18) rfl)) (by decide) a52 C55.1 [.int p6] (rm3g l Z a0 hw a52 cA sA p6 2 4 h0.size (fun j => if j = 1 then p5 else (fun j => if j = 0 then p4 else (fun _ => (0 : Int32)) j) j) (own_zs (own_z p4) (own_z p5) (own_z p6)) h55 C55 A55 S55 (by decide) hco hso hcs go gc gs (by omega) (by decide) (by decide) (by decide) (by decide) (fun k hk => own_ok_len ok2 (by omega)) (fun k hk => own_ok_put ok2 (by omega)) (own_zs2 _ _ _).symm hz2) pd_1 rfl (hb hby at_85) rfl (by rw [hml]; rfl) (by decide) 0 (Nat.le_of_eq rfl) (by decide) (by decide) (by decide) ?_
            intro T56 h56 v56 L56 X56 e56 Q56
            obtain ⟨rfl, N56, K56, cB56, sB56, gB56, gS56, hBS56, C56, A56, S56⟩ := Q56
            have lo56 := own_elt C55.1
            have hco56 : cB56 ≠ a52 := by omega
            have hso56 : sB56 ≠ a52 := by omega
            have gc56 : h0.size ≤ cB56 := by omega
            have gs56 : h0.size ≤ sB56 := by omega
            have kz56 := K56.1
            refine J88 _ _ _ a52 cB56 sB56 3 4 8 3 _ (fun j => if j = 2 then p6 else if j < 2 then (fun j => if j = 1 then p5 else (fun j => if j = 0 then p4 else (fun _ => (0 : Int32)) j) j) j else 0) (own_pad X56 (by decide) (by decide)) e56 (Fr.app (Fr.app (Fr.app (Fr.app (Fr.nil h0.size) N53) N54) N55) N56) go gs56 hco56 hso56 hBS56 C56 A56 S56 (by decide) (by decide) (by unfold own_pair; omega) (fun i hi => ?_)
            have : i = 0 ∨ i = 1 ∨ i = 2 := by omega
            rcases this with rfl | rfl | rfl <;> rfl
      · refine g_iconst (n := 20) X0 hx (1 : Int32) (hb hby at_19) rfl rfl ?_
        refine g_retZ X0 hx (by decide) hret hlk (hb hby at_20) (Fe.of (by decide) (by decide)) ?_
        try rw [e0]
        exact ⟨rfl, Fr.nil _⟩
set_option maxRecDepth 65536 in
set_option maxHeartbeats 40000000 in
theorem comes_1 {Post : Tables → Env → Array Value → State → Outcome → State → Prop} (hpost : ∀ tb e args s v u, (limb_1_1.after args s (.returned v) u = true ∧ limb_1_2.after args s (.returned v) u = true ∧ True) → FrameEnd s (.returned v) u (Jvm.fieldLocs frame_1_writes args s ++ Jvm.arrayLocs frame_1_arrays args s ++ Jvm.staticLocs frame_1_statics s) 24 128 → Post tb e args s (.returned v) u) :
    ArmFor flags0 classFile x code maxLocals ret World_1 tables_1 room_1 Calls_1 rest_1 Pre_1 Post := by
  intro l hfl _ _ p e ha hc hk s m args below hf hA hF happ hP
  obtain ⟨hcalls, hrest, hpre⟩ := hP
  obtain ⟨-, -, -, hnamed, -, -, -, hat⟩ := (Spec.applies_iff hf).mp happ
  obtain ⟨hg, hn⟩ := and_e (Cond.before_iff.mp (show (Jvm.Cond.and given_1 narrow_1).before args s = true from hpre))
  obtain ⟨h1, hg1⟩ := and_e hg
  obtain ⟨k0, hg2⟩ := and_e hg1
  obtain ⟨k1, hg3⟩ := and_e hg2
  obtain ⟨k2, hg4⟩ := and_e hg3
  obtain ⟨k3, hg5⟩ := and_e hg4
  obtain ⟨k4, hg6⟩ := and_e hg5
  obtain ⟨w0, w1, w2, w3, w4, w5, rfl⟩ : ∃ w0 w1 w2 w3 w4 w5 : Value, args = #[w0, w1, w2, w3, w4, w5] := by
    have hs : args.size = 6 := by simpa [Cond.value, given_1] using h1
    obtain ⟨L⟩ := args
    match L, hs with
    | [w0, w1, w2, w3, w4, w5], _ => exact ⟨w0, w1, w2, w3, w4, w5, rfl⟩
  have hw := fun d (hd : d ∈ tables_1) => atoms_spec (ws := Jvm.Cond.code x code maxLocals ret :: tables_1) hat d (List.mem_cons_of_mem _ hd)
  have hfit : Fit s := fun {y c} hc i hi => by
    obtain ⟨ha, rfl⟩ := Array.getElem?_eq_some_iff.mp hc
    have q := List.all_eq_true.mp ((Array.all_eq_true_iff_forall_mem.mp hF) _ (Array.getElem_mem ha)) i (List.mem_range.mpr hi)
    simpa [Array.getElem?_eq_getElem hi] using q
  obtain ⟨i0, e0⟩ := is_v k0
  obtain rfl : w0 = (.int i0) := Option.some.inj e0
  obtain ⟨i1, e1⟩ := is_v k1
  obtain rfl : w1 = (.int i1) := Option.some.inj e1
  obtain ⟨i2, e2⟩ := is_v k2
  obtain rfl : w2 = (.int i2) := Option.some.inj e2
  obtain ⟨i3, e3⟩ := is_v k3
  obtain rfl : w3 = (.int i3) := Option.some.inj e3
  obtain ⟨i4, e4⟩ := is_v k4
  obtain rfl : w4 = (.int i4) := Option.some.inj e4
  obtain ⟨i5, e5⟩ := is_v hg6
  obtain rfl : w5 = (.int i5) := Option.some.inj e5
  obtain ⟨n, o, h1, h2, h3, _, L, rfl, ⟨rfl, N⟩, hq⟩ := rm0 l s _ hw i0 i1 i2 i3 i4 i5 s.heap  p e ha hc hk s m _ below hf ((Spec.applies_iff_loose hf).mp happ).1 ⟨rfl, State.Warmed39.refl s, rfl⟩ trivial
  refine ⟨n, _, h1, h2, h3, hpost _ _ _ _ _ _ ⟨Cond.after_iff.mpr rfl, Cond.after_iff.mpr (eq_i res_at (Term.int_eval (1)) rfl), trivial⟩ ⟨hq.1, hq.2.1, (hq.2.2.sift fun y hy => Or.inr (N y hy)).mono (by decide) (by decide)⟩⟩
theorem main_1_1 : Claimed_1_1 := comes_1 fun _ _ _ _ _ _ h hF => ⟨h.1, hF⟩
theorem main_1_2 : Claimed_1_2 := comes_1 fun _ _ _ _ _ _ h hF => ⟨h.2.1, hF⟩


end Jvm.Pilot.@@N@@
namespace Jvm.Pilot.@@N@@
open Jvm Jvm.ClassFile Sem Op Lib Jvm.Free Jvm.Stand Jvm.Pilot.@@N@@.Jvm.D
/-! MADE BY PROGRAM (witnessworld.py) out of the Statement's table words and the real class files: 12 classes; the members and pool entries that the words name. The judged class is class 1, her method 1. -/
namespace start1
open Jvm.ClassFile
def u (s : String) : CpInfo := .utf8 (stringToUtf16 s)
/-- a pool by its gaps: so many unusable entries, then the entry; so many at the end -/
def gap : Nat → List CpInfo → List CpInfo
  | 0, r => r
  | n + 1, r => .unusable :: gap n r
def poolList (es : List (Nat × CpInfo)) (last : Nat) : List CpInfo := es.foldr (fun e r => gap e.1 (e.2 :: r)) (gap last [])
def pool (es : List (Nat × CpInfo)) (last : Nat) : Array CpInfo := ⟨poolList es last⟩
def fileOf (pool : Array CpInfo) (this : Nat) (attrs : Array Attribute := #[]) (ms : Array MethodInfo := #[]) (fl : Nat := 33) (sup : Nat := 0) (ifs : Array Nat := #[]) (fds : Array FieldInfo := #[]) : ClassFile where
  minorVersion := 0
  majorVersion := 65
  constantPool := pool
  accessFlags := fl
  thisClass := this
  superClass := sup
  interfaces := ifs
  fields := fds
  methods := ms
  attributes := attrs
def plain (name : String) (sup : Option ClassId) : Class where
  name := name
  kind := .ordinary
  loader := none
  accessFlags := 33
  super := sup
  interfaces := #[]
  cf := none
  fields := #[]
  methods := #[]
  instanceTypes := #[]
  staticTypes := #[]
  resolved := #[]
  callSites := []
  init := .initialized
  statics := none
  mirror := none

def pool0 : Array CpInfo := pool [(5, u "<init>"), (0, u "()V"), (1, .class_ 10), (1, u "java/lang/Object")] 113

def k0c0 : Code := { maxStack := 0, maxLocals := 1, code := object_method_1_code, exceptionTable := #[], attributes := #[] }
def k0m0 : Method := { name := "<init>", desc := "()V", sig := { parameters := [], returnType := none }, accessFlags := 1, code := some k0c0 }
/-- java/lang/Object -/
def k0 : Class := { plain "java/lang/Object" none with
  accessFlags := 33
  interfaces := #[]
  cf := some (fileOf pool0 8 #[] #[{ accessFlags := 1, nameIndex := 5, descriptorIndex := 6, attributes := #[] }] 33 0 #[] #[])
  fields := #[]
  methods := #[k0m0]
  instanceTypes := #[]
  staticTypes := #[]
  resolved := Array.replicate 124 none
  statics := none }

def pool1 : Array CpInfo := pool [(2, .class_ 4), (1, u "java/lang/Object"), (0, u "<init>"), (0, u "()V"), (0, .class_ 8), (0, u "com/example/caddisfly/caddisfly/tableau/ConceptIndex"), (0, .methodref 7 10), (0, .nameAndType 5 11), (0, u "(I)V"), (0, .methodref 7 13), (0, .nameAndType 14 11), (0, u "add"), (0, .methodref 7 16), (0, .nameAndType 17 11), (0, u "truncate"), (0, .methodref 19 20), (0, .class_ 21), (0, .nameAndType 22 23), (0, u "java/lang/Math"), (0, u "min"), (0, u "(II)I"), (0, .methodref 7 25), (0, .nameAndType 26 27), (0, u "size"), (0, u "()I"), (0, .methodref 7 29), (0, .nameAndType 30 31), (0, u "indexOf"), (0, u "(I)I"), (0, .class_ 33), (0, u "com/example/caddisfly/caddisfly/tableau/ConceptIndexTruncatePinLaw"), (2, u "law"), (0, u "(IIIIII)Z")] 3

def k1m0 : Method := { name := "<init>", desc := "()V", sig := { parameters := [], returnType := none }, accessFlags := 1, code := none }
def k1c1 : Code := { maxStack := 3, maxLocals := 14, code := code, exceptionTable := #[], attributes := #[] }
def k1m1 : Method := { name := "law", desc := "(IIIIII)Z", sig := { parameters := [.int, .int, .int, .int, .int, .int], returnType := some .boolean }, accessFlags := 9, code := some k1c1 }
/-- com/example/caddisfly/caddisfly/tableau/ConceptIndexTruncatePinLaw -/
def k1 : Class := { plain "com/example/caddisfly/caddisfly/tableau/ConceptIndexTruncatePinLaw" (some 0) with
  accessFlags := 49
  interfaces := #[]
  cf := some (fileOf pool1 32 #[] #[{ accessFlags := 1, nameIndex := 5, descriptorIndex := 6, attributes := #[] }, { accessFlags := 9, nameIndex := 36, descriptorIndex := 37, attributes := #[] }] 49 2 #[] #[])
  fields := #[]
  methods := #[k1m0, k1m1]
  instanceTypes := #[]
  staticTypes := #[]
  resolved := Array.replicate 41 none
  statics := none }

def pool2 : Array CpInfo := pool [(1, .methodref 2 3), (0, .class_ 4), (0, .nameAndType 5 6), (0, u "java/lang/Object"), (0, u "<init>"), (0, u "()V"), (0, .fieldref 8 9), (0, .class_ 10), (0, .nameAndType 11 12), (0, u "com/example/caddisfly/caddisfly/tableau/ConceptIndex"), (0, u "concepts"), (0, u "[I"), (0, .fieldref 8 14), (0, .nameAndType 15 12), (0, u "slots"), (0, .fieldref 8 17), (0, .nameAndType 18 19), (0, u "size"), (0, u "I"), (0, .methodref 8 21), (0, .nameAndType 22 23), (0, u "start"), (0, u "(II)I"), (0, .methodref 25 26), (0, .class_ 27), (0, .nameAndType 28 29), (0, u "java/util/Arrays"), (0, u "copyOf"), (0, u "([II)[I"), (0, .methodref 8 31), (0, .nameAndType 32 33), (0, u "place"), (0, u "(I)V"), (0, .integer 2654435769), (2, u "()I"), (1, u "(I)I"), (0, u "indexOf"), (1, u "add"), (0, u "truncate")] 2

def k2c0 : Code := { maxStack := 3, maxLocals := 2, code := prog_82_method_1_code, exceptionTable := #[], attributes := #[] }
def k2m0 : Method := { name := "<init>", desc := "(I)V", sig := { parameters := [.int], returnType := none }, accessFlags := 0, code := some k2c0 }
def k2c1 : Code := { maxStack := 1, maxLocals := 1, code := prog_82_method_2_code, exceptionTable := #[], attributes := #[] }
def k2m1 : Method := { name := "size", desc := "()I", sig := { parameters := [], returnType := some .int }, accessFlags := 0, code := some k2c1 }
def k2c2 : Code := { maxStack := 2, maxLocals := 5, code := prog_82_method_4_code, exceptionTable := #[], attributes := #[] }
def k2m2 : Method := { name := "indexOf", desc := "(I)I", sig := { parameters := [.int], returnType := some .int }, accessFlags := 0, code := some k2c2 }
def k2c3 : Code := { maxStack := 4, maxLocals := 3, code := prog_82_method_5_code, exceptionTable := #[], attributes := #[] }
def k2m3 : Method := { name := "add", desc := "(I)V", sig := { parameters := [.int], returnType := none }, accessFlags := 0, code := some k2c3 }
def k2c4 : Code := { maxStack := 3, maxLocals := 4, code := prog_82_method_6_code, exceptionTable := #[], attributes := #[] }
def k2m4 : Method := { name := "truncate", desc := "(I)V", sig := { parameters := [.int], returnType := none }, accessFlags := 0, code := some k2c4 }
def k2c5 : Code := { maxStack := 4, maxLocals := 4, code := prog_82_method_7_code, exceptionTable := #[], attributes := #[] }
def k2m5 : Method := { name := "place", desc := "(I)V", sig := { parameters := [.int], returnType := none }, accessFlags := 2, code := some k2c5 }
def k2c6 : Code := { maxStack := 3, maxLocals := 3, code := prog_82_method_8_code, exceptionTable := #[], attributes := #[] }
def k2m6 : Method := { name := "start", desc := "(II)I", sig := { parameters := [.int, .int], returnType := some .int }, accessFlags := 10, code := some k2c6 }
/-- com/example/caddisfly/caddisfly/tableau/ConceptIndex -/
def k2 : Class := { plain "com/example/caddisfly/caddisfly/tableau/ConceptIndex" (some 0) with
  accessFlags := 32
  interfaces := #[]
  cf := some (fileOf pool2 8 #[] #[{ accessFlags := 0, nameIndex := 5, descriptorIndex := 33, attributes := #[] }, { accessFlags := 0, nameIndex := 18, descriptorIndex := 37, attributes := #[] }, { accessFlags := 0, nameIndex := 40, descriptorIndex := 39, attributes := #[] }, { accessFlags := 0, nameIndex := 42, descriptorIndex := 33, attributes := #[] }, { accessFlags := 0, nameIndex := 43, descriptorIndex := 33, attributes := #[] }, { accessFlags := 2, nameIndex := 32, descriptorIndex := 33, attributes := #[] }, { accessFlags := 10, nameIndex := 22, descriptorIndex := 23, attributes := #[] }] 32 2 #[] #[{ accessFlags := 2, nameIndex := 11, descriptorIndex := 12, attributes := #[] }, { accessFlags := 2, nameIndex := 18, descriptorIndex := 19, attributes := #[] }, { accessFlags := 2, nameIndex := 15, descriptorIndex := 12, attributes := #[] }])
  fields := #[{ name := "concepts", type := (.array .int), accessFlags := 2, slot := 0, constantValue := 0 }, { name := "size", type := .int, accessFlags := 2, slot := 1, constantValue := 0 }, { name := "slots", type := (.array .int), accessFlags := 2, slot := 2, constantValue := 0 }]
  methods := #[k2m0, k2m1, k2m2, k2m3, k2m4, k2m5, k2m6]
  instanceTypes := #[(.array .int), .int, (.array .int)]
  staticTypes := #[]
  resolved := Array.replicate 46 none
  statics := none }

def pool3 : Array CpInfo := pool [(2, .class_ 4), (1, u "java/lang/Object"), (0, u "<init>"), (0, u "()V"), (7, .class_ 16), (1, u "java/util/Arrays"), (57, .class_ 76), (1, u "java/util/Arrays$NaturalOrder"), (36, .class_ 115), (1, u "java/util/Arrays$LegacyMergeSort"), (1, u "Z"), (32, .methodref 151 152), (0, .class_ 153), (0, .nameAndType 154 155), (0, u "java/lang/System"), (0, u "arraycopy"), (0, u "(Ljava/lang/Object;ILjava/lang/Object;II)V"), (146, u "copyOf"), (1, .methodref 305 306), (0, .class_ 307), (0, .nameAndType 308 309), (0, u "java/lang/Math"), (0, u "min"), (0, u "(II)I"), (65, .class_ 376), (0, u "java/util/Arrays$ArrayList"), (68, u "$assertionsDisabled"), (269, u "MIN_ARRAY_SORT_GRAN"), (0, u "I"), (2, u "INSERTIONSORT_THRESHOLD"), (151, u "([II)[I"), (103, .class_ 976), (0, u "java/util/Arrays$ArrayItr")] 52

def k3m0 : Method := { name := "<init>", desc := "()V", sig := { parameters := [], returnType := none }, accessFlags := 2, code := none }
def k3c1 : Code := { maxStack := 6, maxLocals := 3, code := jdk_65_method_123_code, exceptionTable := #[], attributes := #[] }
def k3m1 : Method := { name := "copyOf", desc := "([II)[I", sig := { parameters := [(.array .int), .int], returnType := some (.array .int) }, accessFlags := 9, code := some k3c1 }
/-- java/util/Arrays -/
def k3 : Class := { plain "java/util/Arrays" (some 0) with
  accessFlags := 49
  interfaces := #[]
  cf := some (fileOf pool3 14 #[.nestMembers #[975, 375, 113, 74]] #[{ accessFlags := 2, nameIndex := 5, descriptorIndex := 6, attributes := #[] }, { accessFlags := 9, nameIndex := 302, descriptorIndex := 871, attributes := #[] }] 49 2 #[] #[{ accessFlags := 26, nameIndex := 715, descriptorIndex := 716, attributes := #[] }, { accessFlags := 26, nameIndex := 719, descriptorIndex := 716, attributes := #[] }, { accessFlags := 4120, nameIndex := 445, descriptorIndex := 117, attributes := #[] }])
  fields := #[{ name := "MIN_ARRAY_SORT_GRAN", type := .int, accessFlags := 26, slot := 0, constantValue := 0 }, { name := "INSERTIONSORT_THRESHOLD", type := .int, accessFlags := 26, slot := 1, constantValue := 0 }, { name := "$assertionsDisabled", type := .boolean, accessFlags := 4120, slot := 2, constantValue := 0 }]
  methods := #[k3m0, k3m1]
  instanceTypes := #[]
  staticTypes := #[.int, .int, .boolean]
  resolved := Array.replicate 1029 none
  statics := none }

def pool4 : Array CpInfo := pool [(1, .class_ 2), (0, u "java/lang/Math"), (1, .class_ 6), (1, u "java/lang/Object"), (0, u "<init>"), (0, u "()V"), (89, .class_ 100), (1, u "java/lang/Math$RandomNumberGeneratorHolder"), (71, u "negativeZeroFloatBits"), (0, u "J"), (2, u "negativeZeroDoubleBits"), (24, u "min"), (43, u "$assertionsDisabled"), (0, u "Z"), (88, u "(II)I"), (2, u "twoToTheDoubleScaleDown"), (0, u "D"), (4, u "twoToTheDoubleScaleUp"), (9, u "E"), (3, u "PI"), (2, u "TAU"), (2, u "DEGREES_TO_RADIANS"), (0, u "RADIANS_TO_DEGREES")] 94

def k4m0 : Method := { name := "<init>", desc := "()V", sig := { parameters := [], returnType := none }, accessFlags := 2, code := none }
def k4c1 : Code := { maxStack := 2, maxLocals := 2, code := jdk_29_method_69_code, exceptionTable := #[], attributes := #[] }
def k4m1 : Method := { name := "min", desc := "(II)I", sig := { parameters := [.int, .int], returnType := some .int }, accessFlags := 9, code := some k4c1 }
/-- java/lang/Math -/
def k4 : Class := { plain "java/lang/Math" (some 0) with
  accessFlags := 49
  interfaces := #[]
  cf := some (fileOf pool4 1 #[.nestMembers #[98]] #[{ accessFlags := 2, nameIndex := 7, descriptorIndex := 8, attributes := #[] }, { accessFlags := 9, nameIndex := 201, descriptorIndex := 335, attributes := #[] }] 49 4 #[] #[{ accessFlags := 25, nameIndex := 354, descriptorIndex := 339, attributes := #[] }, { accessFlags := 25, nameIndex := 358, descriptorIndex := 339, attributes := #[] }, { accessFlags := 25, nameIndex := 361, descriptorIndex := 339, attributes := #[] }, { accessFlags := 26, nameIndex := 364, descriptorIndex := 339, attributes := #[] }, { accessFlags := 26, nameIndex := 365, descriptorIndex := 339, attributes := #[] }, { accessFlags := 26, nameIndex := 172, descriptorIndex := 173, attributes := #[] }, { accessFlags := 26, nameIndex := 176, descriptorIndex := 173, attributes := #[] }, { accessFlags := 8, nameIndex := 344, descriptorIndex := 339, attributes := #[] }, { accessFlags := 8, nameIndex := 338, descriptorIndex := 339, attributes := #[] }, { accessFlags := 4120, nameIndex := 245, descriptorIndex := 246, attributes := #[] }])
  fields := #[{ name := "E", type := .double, accessFlags := 25, slot := 0, constantValue := 0 }, { name := "PI", type := .double, accessFlags := 25, slot := 1, constantValue := 0 }, { name := "TAU", type := .double, accessFlags := 25, slot := 2, constantValue := 0 }, { name := "DEGREES_TO_RADIANS", type := .double, accessFlags := 26, slot := 3, constantValue := 0 }, { name := "RADIANS_TO_DEGREES", type := .double, accessFlags := 26, slot := 4, constantValue := 0 }, { name := "negativeZeroFloatBits", type := .long, accessFlags := 26, slot := 5, constantValue := 0 }, { name := "negativeZeroDoubleBits", type := .long, accessFlags := 26, slot := 6, constantValue := 0 }, { name := "twoToTheDoubleScaleUp", type := .double, accessFlags := 8, slot := 7, constantValue := 0 }, { name := "twoToTheDoubleScaleDown", type := .double, accessFlags := 8, slot := 8, constantValue := 0 }, { name := "$assertionsDisabled", type := .boolean, accessFlags := 4120, slot := 9, constantValue := 0 }]
  methods := #[k4m0, k4m1]
  instanceTypes := #[]
  staticTypes := #[.double, .double, .double, .double, .double, .long, .long, .double, .double, .boolean]
  resolved := Array.replicate 460 none
  statics := none }

def pool5 : Array CpInfo := pool [(2, .class_ 4), (1, u "java/lang/Object"), (0, u "<init>"), (0, u "()V"), (1, .class_ 10), (1, u "java/lang/System"), (0, u "allowSecurityManager"), (0, u "I"), (16, u "cons"), (0, u "Ljava/io/Console;"), (77, .class_ 110), (1, u "java/lang/System$CallersHolder"), (43, u "initialErrStream"), (0, u "Ljava/io/PrintStream;"), (19, u "security"), (0, u "Ljava/lang/SecurityManager;"), (31, .class_ 209), (0, u "java/lang/System$1"), (7, u "props"), (0, u "Ljava/util/Properties;"), (2, u "lineSeparator"), (0, u "Ljava/lang/String;"), (96, .class_ 321), (1, u "java/lang/System$LoggerFinder"), (5, .class_ 328), (0, u "java/lang/System$Logger"), (67, u "err"), (2, u "out"), (91, u "notSupportedJnuEncoding"), (15, u "in"), (17, u "initialIn"), (0, u "Ljava/io/InputStream;"), (35, u "bootLayer"), (0, u "Ljava/lang/ModuleLayer;"), (99, .class_ 664), (0, u "java/lang/System$2"), (9, u "NEVER"), (2, u "MAYBE"), (49, u "arraycopy"), (0, u "(Ljava/lang/Object;ILjava/lang/Object;II)V"), (72, .class_ 802), (0, u "java/lang/System$Logger$Level")] 31

def k5m0 : Method := { name := "<init>", desc := "()V", sig := { parameters := [], returnType := none }, accessFlags := 2, code := none }
def k5m1 : Method := { name := "arraycopy", desc := "(Ljava/lang/Object;ILjava/lang/Object;II)V", sig := { parameters := [(.object "java/lang/Object"), .int, (.object "java/lang/Object"), .int, .int], returnType := none }, accessFlags := 265, code := none }
/-- java/lang/System -/
def k5 : Class := { plain "java/lang/System" (some 0) with
  accessFlags := 49
  interfaces := #[]
  cf := some (fileOf pool5 8 #[.nestMembers #[319, 327, 801, 108, 663, 208]] #[{ accessFlags := 2, nameIndex := 5, descriptorIndex := 6, attributes := #[] }, { accessFlags := 265, nameIndex := 727, descriptorIndex := 728, attributes := #[] }] 49 2 #[] #[{ accessFlags := 25, nameIndex := 507, descriptorIndex := 526, attributes := #[] }, { accessFlags := 25, nameIndex := 399, descriptorIndex := 155, attributes := #[] }, { accessFlags := 25, nameIndex := 396, descriptorIndex := 155, attributes := #[] }, { accessFlags := 10, nameIndex := 525, descriptorIndex := 526, attributes := #[] }, { accessFlags := 26, nameIndex := 674, descriptorIndex := 12, attributes := #[] }, { accessFlags := 26, nameIndex := 677, descriptorIndex := 12, attributes := #[] }, { accessFlags := 10, nameIndex := 11, descriptorIndex := 12, attributes := #[] }, { accessFlags := 74, nameIndex := 175, descriptorIndex := 176, attributes := #[] }, { accessFlags := 10, nameIndex := 491, descriptorIndex := 222, attributes := #[] }, { accessFlags := 74, nameIndex := 29, descriptorIndex := 30, attributes := #[] }, { accessFlags := 74, nameIndex := 154, descriptorIndex := 155, attributes := #[] }, { accessFlags := 10, nameIndex := 217, descriptorIndex := 218, attributes := #[] }, { accessFlags := 10, nameIndex := 221, descriptorIndex := 222, attributes := #[] }, { accessFlags := 8, nameIndex := 562, descriptorIndex := 563, attributes := #[] }])
  fields := #[{ name := "in", type := (.object "java/io/InputStream"), accessFlags := 25, slot := 0, constantValue := 0 }, { name := "out", type := (.object "java/io/PrintStream"), accessFlags := 25, slot := 1, constantValue := 0 }, { name := "err", type := (.object "java/io/PrintStream"), accessFlags := 25, slot := 2, constantValue := 0 }, { name := "initialIn", type := (.object "java/io/InputStream"), accessFlags := 10, slot := 3, constantValue := 0 }, { name := "NEVER", type := .int, accessFlags := 26, slot := 4, constantValue := 0 }, { name := "MAYBE", type := .int, accessFlags := 26, slot := 5, constantValue := 0 }, { name := "allowSecurityManager", type := .int, accessFlags := 10, slot := 6, constantValue := 0 }, { name := "security", type := (.object "java/lang/SecurityManager"), accessFlags := 74, slot := 7, constantValue := 0 }, { name := "notSupportedJnuEncoding", type := (.object "java/lang/String"), accessFlags := 10, slot := 8, constantValue := 0 }, { name := "cons", type := (.object "java/io/Console"), accessFlags := 74, slot := 9, constantValue := 0 }, { name := "initialErrStream", type := (.object "java/io/PrintStream"), accessFlags := 74, slot := 10, constantValue := 0 }, { name := "props", type := (.object "java/util/Properties"), accessFlags := 10, slot := 11, constantValue := 0 }, { name := "lineSeparator", type := (.object "java/lang/String"), accessFlags := 10, slot := 12, constantValue := 0 }, { name := "bootLayer", type := (.object "java/lang/ModuleLayer"), accessFlags := 8, slot := 13, constantValue := 0 }]
  methods := #[k5m0, k5m1]
  instanceTypes := #[]
  staticTypes := #[(.object "java/io/InputStream"), (.object "java/io/PrintStream"), (.object "java/io/PrintStream"), (.object "java/io/InputStream"), .int, .int, .int, (.object "java/lang/SecurityManager"), (.object "java/lang/String"), (.object "java/io/Console"), (.object "java/io/PrintStream"), (.object "java/util/Properties"), (.object "java/lang/String"), (.object "java/lang/ModuleLayer")]
  resolved := Array.replicate 834 none
  statics := none }

def pool6 : Array CpInfo := pool [(1, u "java/lang/Cloneable"), (0, .class_ 1), (0, u "java/lang/Object"), (0, .class_ 3)] 3

/-- java/lang/Cloneable -/
def k6 : Class := { plain "java/lang/Cloneable" (some 0) with
  accessFlags := 1537
  interfaces := #[]
  cf := some (fileOf pool6 2 #[] #[] 1537 4 #[] #[])
  fields := #[]
  methods := #[]
  instanceTypes := #[]
  staticTypes := #[]
  resolved := Array.replicate 8 none
  statics := none }

def pool7 : Array CpInfo := pool [(1, u "java/io/Serializable"), (0, .class_ 1), (0, u "java/lang/Object"), (0, .class_ 3)] 3

/-- java/io/Serializable -/
def k7 : Class := { plain "java/io/Serializable" (some 0) with
  accessFlags := 1537
  interfaces := #[]
  cf := some (fileOf pool7 2 #[] #[] 1537 4 #[] #[])
  fields := #[]
  methods := #[]
  instanceTypes := #[]
  staticTypes := #[]
  resolved := Array.replicate 8 none
  statics := none }

/-- the primitive byte -/
def k8 : Class := { plain "byte" none with kind := .primitive 'B', accessFlags := 0x411 }
/-- [B -/
def k9 : Class := { plain "[B" (some 0) with kind := .array 8 .byte, interfaces := #[6, 7], accessFlags := 1041 }

/-- the primitive int -/
def k10 : Class := { plain "int" none with kind := .primitive 'I', accessFlags := 0x411 }
/-- [I -/
def k11 : Class := { plain "[I" (some 0) with kind := .array 10 .int, interfaces := #[6, 7], accessFlags := 1041 }

def heap : Heap := #[]
def classes : Array Class := #[k0, k1, k2, k3, k4, k5, k6, k7, k8, k9, k10, k11]
def interned : List (Array UInt16 × Addr) := []
def slotsUsed : Nat := 0
def theMethod : MethodId := ⟨1, 1⟩
def args0 : Array Value := #[.int 1, .int 3, .int 2, .int 10, .int 11, .int 12]
def aboutOver (below : List Frame) : State where
  vm := { classes := classes, interned := interned.toArray }
  heap := heap
  slotsUsed := slotsUsed
  threads := #[{ frames := .invoking theMethod args0 :: below }]
def below0 : List Frame := [.native { method := ⟨0, 0⟩, args := #[] }]
def about1 : State := aboutOver below0
def p0 : Program := .bare "" "" ""
def e0 : Env := launch0.env 0 0 0
theorem w_frames : about1.frames = Frame.invoking theMethod args0 :: below0 := rfl
set_option maxRecDepth 65536 in
theorem w_args : argsFit about1.vm theMethod args0 = true := by decide +kernel
set_option maxRecDepth 65536 in
theorem w_heap : heapFits about1 = true := by decide +kernel
set_option maxRecDepth 65536 in
theorem w_runnable : about1.curStatus? = some .runnable := by decide +kernel
set_option maxRecDepth 65536 in
theorem w_alone : about1.alone = true := by decide +kernel
set_option maxRecDepth 65536 in
theorem w_named : about1.methodNamed? x = some theMethod := by decide +kernel
set_option maxRecDepth 65536 in
theorem w_hears : about1.hears theMethod below0 = true := by decide +kernel
set_option maxRecDepth 65536 in
theorem w_ripe : about1.ripe theMethod args0 below0 = true := by decide +kernel
theorem w_running : about1.status = .running := rfl
set_option maxRecDepth 65536 in
theorem w_room : about1.hasRoom e0.platform room_1 = true :=
  launch0.hasRoom_least _ room_1 (by decide +kernel) (by decide +kernel) (by decide +kernel) (by decide +kernel) (by decide +kernel) (by decide +kernel)
theorem allAtoms_all (ts : List Jvm.Cond) (a : Array Jvm.Value) (st : Jvm.State) : (allAtoms ts).before a st = ts.all (fun c => c.before a st) := by
  induction ts with
  | nil => rfl
  | cons c t ih =>
    show (Jvm.Cond.and c (allAtoms t)).before a st = _
    rw [Jvm.Cond.before_and, ih, List.all_cons]
def words1 : List Jvm.Cond := Jvm.Cond.code x code maxLocals ret :: tables_1
/-- a 'code' word, met by the world's own term for the bytes: nothing is compared byte by byte -/
theorem code_word {y : MethodName} {bytes : ByteArray} {mx : Nat} {rt : Option FieldType} {a : Array Value} {s : State} {m : MethodId} {meth : Method} {c : Code} (h1 : s.methodNamed? y = some m) (h2 : s.vm.method? m = some meth) (h3 : meth.code = some c) (h4 : c.code = bytes)
    (h5 : (c.maxLocals == mx && c.exceptionTable.isEmpty && decide (c.maxStack ≤ mostOperands) && decide (meth.sig.returnType = rt) && !meth.locks && decide (parseMethodDescriptor y.desc = some meth.sig)) = true) : (Jvm.Cond.code y bytes mx rt).before a s = true := by
  simp only [Bool.and_eq_true, beq_iff_eq, Bool.not_eq_true', decide_eq_true_eq] at h5
  obtain ⟨⟨⟨⟨⟨g1, g2⟩, g3⟩, g4⟩, g5⟩, g6⟩ := h5
  simp [Cond.before, Cond.holds, Cond.value, h1, h2, h3, h4, g1, g2, g3, g4, g5, g6]
def isCode : Jvm.Cond → Bool
  | .code _ _ _ _ => true
  | _ => false
theorem all_split {L : List Jvm.Cond} {P : Jvm.Cond → Bool} (h1 : L.all (fun c => isCode c || P c) = true) (h2 : ∀ c ∈ L.filter isCode, P c = true) : L.all P = true := by
  refine List.all_eq_true.mpr fun c hc => ?_
  have h := List.all_eq_true.mp h1 c hc
  rcases Bool.eq_false_or_eq_true (isCode c) with hi | hi
  · exact h2 c (List.mem_filter.mpr ⟨hc, hi⟩)
  · simpa [hi] using h
set_option maxRecDepth 65536 in
theorem w_c0 : (Jvm.Cond.code x code maxLocals ret).before args0 about1 = true := code_word (m := ⟨1, 1⟩) (meth := k1m1) (c := k1c1) (by decide +kernel) rfl rfl rfl (by decide +kernel)
set_option maxRecDepth 65536 in
theorem w_c1 : (Jvm.Cond.code ({ cls := "com/example/caddisfly/caddisfly/tableau/ConceptIndex", name := "<init>", desc := "(I)V" } : Jvm.MethodName) prog_82_method_1_code (2 : Nat) (Option.none : Option Jvm.ClassFile.FieldType)).before args0 about1 = true := code_word (m := ⟨2, 0⟩) (meth := k2m0) (c := k2c0) (by decide +kernel) rfl rfl rfl (by decide +kernel)
set_option maxRecDepth 65536 in
theorem w_c2 : (Jvm.Cond.code ({ cls := "java/lang/Object", name := "<init>", desc := "()V" } : Jvm.MethodName) object_method_1_code (1 : Nat) (Option.none : Option Jvm.ClassFile.FieldType)).before args0 about1 = true := code_word (m := ⟨0, 0⟩) (meth := k0m0) (c := k0c0) (by decide +kernel) rfl rfl rfl (by decide +kernel)
set_option maxRecDepth 65536 in
theorem w_c3 : (Jvm.Cond.code ({ cls := "com/example/caddisfly/caddisfly/tableau/ConceptIndex", name := "add", desc := "(I)V" } : Jvm.MethodName) prog_82_method_5_code (3 : Nat) (Option.none : Option Jvm.ClassFile.FieldType)).before args0 about1 = true := code_word (m := ⟨2, 3⟩) (meth := k2m3) (c := k2c3) (by decide +kernel) rfl rfl rfl (by decide +kernel)
set_option maxRecDepth 65536 in
theorem w_c4 : (Jvm.Cond.code ({ cls := "com/example/caddisfly/caddisfly/tableau/ConceptIndex", name := "place", desc := "(I)V" } : Jvm.MethodName) prog_82_method_7_code (4 : Nat) (Option.none : Option Jvm.ClassFile.FieldType)).before args0 about1 = true := code_word (m := ⟨2, 5⟩) (meth := k2m5) (c := k2c5) (by decide +kernel) rfl rfl rfl (by decide +kernel)
set_option maxRecDepth 65536 in
theorem w_c5 : (Jvm.Cond.code ({ cls := "com/example/caddisfly/caddisfly/tableau/ConceptIndex", name := "start", desc := "(II)I" } : Jvm.MethodName) prog_82_method_8_code (3 : Nat) (Option.some Jvm.ClassFile.FieldType.int)).before args0 about1 = true := code_word (m := ⟨2, 6⟩) (meth := k2m6) (c := k2c6) (by decide +kernel) rfl rfl rfl (by decide +kernel)
set_option maxRecDepth 65536 in
theorem w_c6 : (Jvm.Cond.code ({ cls := "java/util/Arrays", name := "copyOf", desc := "([II)[I" } : Jvm.MethodName) jdk_65_method_123_code (3 : Nat) (Option.some (Jvm.ClassFile.FieldType.array Jvm.ClassFile.FieldType.int))).before args0 about1 = true := code_word (m := ⟨3, 1⟩) (meth := k3m1) (c := k3c1) (by decide +kernel) rfl rfl rfl (by decide +kernel)
set_option maxRecDepth 65536 in
theorem w_c7 : (Jvm.Cond.code ({ cls := "java/lang/Math", name := "min", desc := "(II)I" } : Jvm.MethodName) jdk_29_method_69_code (2 : Nat) (Option.some Jvm.ClassFile.FieldType.int)).before args0 about1 = true := code_word (m := ⟨4, 1⟩) (meth := k4m1) (c := k4c1) (by decide +kernel) rfl rfl rfl (by decide +kernel)
set_option maxRecDepth 65536 in
theorem w_c8 : (Jvm.Cond.code ({ cls := "com/example/caddisfly/caddisfly/tableau/ConceptIndex", name := "truncate", desc := "(I)V" } : Jvm.MethodName) prog_82_method_6_code (4 : Nat) (Option.none : Option Jvm.ClassFile.FieldType)).before args0 about1 = true := code_word (m := ⟨2, 4⟩) (meth := k2m4) (c := k2c4) (by decide +kernel) rfl rfl rfl (by decide +kernel)
set_option maxRecDepth 65536 in
theorem w_c9 : (Jvm.Cond.code ({ cls := "com/example/caddisfly/caddisfly/tableau/ConceptIndex", name := "size", desc := "()I" } : Jvm.MethodName) prog_82_method_2_code (1 : Nat) (Option.some Jvm.ClassFile.FieldType.int)).before args0 about1 = true := code_word (m := ⟨2, 1⟩) (meth := k2m1) (c := k2c1) (by decide +kernel) rfl rfl rfl (by decide +kernel)
set_option maxRecDepth 65536 in
theorem w_c10 : (Jvm.Cond.code ({ cls := "com/example/caddisfly/caddisfly/tableau/ConceptIndex", name := "indexOf", desc := "(I)I" } : Jvm.MethodName) prog_82_method_4_code (5 : Nat) (Option.some Jvm.ClassFile.FieldType.int)).before args0 about1 = true := code_word (m := ⟨2, 2⟩) (meth := k2m2) (c := k2c2) (by decide +kernel) rfl rfl rfl (by decide +kernel)
def codes1 : List Jvm.Cond := [Jvm.Cond.code x code maxLocals ret, Jvm.Cond.code ({ cls := "com/example/caddisfly/caddisfly/tableau/ConceptIndex", name := "<init>", desc := "(I)V" } : Jvm.MethodName) prog_82_method_1_code (2 : Nat) (Option.none : Option Jvm.ClassFile.FieldType), Jvm.Cond.code ({ cls := "java/lang/Object", name := "<init>", desc := "()V" } : Jvm.MethodName) object_method_1_code (1 : Nat) (Option.none : Option Jvm.ClassFile.FieldType), Jvm.Cond.code ({ cls := "com/example/caddisfly/caddisfly/tableau/ConceptIndex", name := "add", desc := "(I)V" } : Jvm.MethodName) prog_82_method_5_code (3 : Nat) (Option.none : Option Jvm.ClassFile.FieldType), Jvm.Cond.code ({ cls := "com/example/caddisfly/caddisfly/tableau/ConceptIndex", name := "place", desc := "(I)V" } : Jvm.MethodName) prog_82_method_7_code (4 : Nat) (Option.none : Option Jvm.ClassFile.FieldType), Jvm.Cond.code ({ cls := "com/example/caddisfly/caddisfly/tableau/ConceptIndex", name := "start", desc := "(II)I" } : Jvm.MethodName) prog_82_method_8_code (3 : Nat) (Option.some Jvm.ClassFile.FieldType.int), Jvm.Cond.code ({ cls := "java/util/Arrays", name := "copyOf", desc := "([II)[I" } : Jvm.MethodName) jdk_65_method_123_code (3 : Nat) (Option.some (Jvm.ClassFile.FieldType.array Jvm.ClassFile.FieldType.int)), Jvm.Cond.code ({ cls := "java/lang/Math", name := "min", desc := "(II)I" } : Jvm.MethodName) jdk_29_method_69_code (2 : Nat) (Option.some Jvm.ClassFile.FieldType.int), Jvm.Cond.code ({ cls := "com/example/caddisfly/caddisfly/tableau/ConceptIndex", name := "truncate", desc := "(I)V" } : Jvm.MethodName) prog_82_method_6_code (4 : Nat) (Option.none : Option Jvm.ClassFile.FieldType), Jvm.Cond.code ({ cls := "com/example/caddisfly/caddisfly/tableau/ConceptIndex", name := "size", desc := "()I" } : Jvm.MethodName) prog_82_method_2_code (1 : Nat) (Option.some Jvm.ClassFile.FieldType.int), Jvm.Cond.code ({ cls := "com/example/caddisfly/caddisfly/tableau/ConceptIndex", name := "indexOf", desc := "(I)I" } : Jvm.MethodName) prog_82_method_4_code (5 : Nat) (Option.some Jvm.ClassFile.FieldType.int)]
set_option maxRecDepth 65536 in
theorem codes_eq : words1.filter isCode = codes1 := rfl
theorem w_codes : ∀ c ∈ words1.filter isCode, c.before args0 about1 = true := by
  rw [codes_eq]
  intro c hc
  simp only [codes1, List.mem_cons, List.not_mem_nil, or_false] at hc
  rcases hc with rfl | rfl | rfl | rfl | rfl | rfl | rfl | rfl | rfl | rfl | rfl
  · exact w_c0
  · exact w_c1
  · exact w_c2
  · exact w_c3
  · exact w_c4
  · exact w_c5
  · exact w_c6
  · exact w_c7
  · exact w_c8
  · exact w_c9
  · exact w_c10
set_option maxRecDepth 65536 in
theorem w_t1 : (words1.take 24).all (fun c => isCode c || c.before args0 about1) = true := by decide +kernel
set_option maxRecDepth 65536 in
theorem w_t2 : ((words1.drop 24).take 24).all (fun c => isCode c || c.before args0 about1) = true := by decide +kernel
set_option maxRecDepth 65536 in
theorem w_t3 : ((words1.drop 24).drop 24).all (fun c => isCode c || c.before args0 about1) = true := by decide +kernel
theorem w_tables : (allAtoms (Jvm.Cond.code x code maxLocals ret :: tables_1)).before args0 about1 = true := by
  rw [allAtoms_all]
  show words1.all (fun c => c.before args0 about1) = true
  refine all_split ?_ w_codes
  rw [← List.take_append_drop 24 words1, List.all_append, w_t1, ← List.take_append_drop 24 (words1.drop 24), List.all_append, w_t2, w_t3]
  rfl
set_option maxRecDepth 65536 in
theorem w_case : (Jvm.Cond.and given_1 narrow_1).before args0 about1 = true := by decide +kernel
theorem w_applies : (headSpec (Jvm.Cond.code x code maxLocals ret :: tables_1) room_1).applies x e0.platform about1 = true :=
  (Spec.applies_iff w_frames).mpr ⟨w_running, w_runnable, w_alone, w_named, w_hears, w_ripe, w_room, w_tables⟩
theorem atStart : AtStart classFile x code maxLocals ret World_1 tables_1 room_1 Calls_1 rest_1 Pre_1 launch0 p0 e0 about1 theMethod args0 below0 :=
  ⟨lists_1, trivial, launch0.admits_env _ _ _, launch0.least_env, fairChoices_fair.cas, fairChoices_fair.clock, w_frames, w_args, w_heap, w_applies, trivial, trivial, w_case⟩
end start1
theorem witness_1 : WitnessClaimed_1 := ⟨start1.p0, start1.e0, start1.about1, start1.theMethod, start1.args0, start1.below0, start1.atStart⟩
end Jvm.Pilot.@@N@@
