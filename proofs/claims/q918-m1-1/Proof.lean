import JvmDerived
import JvmDerived.Pilot.@@N@@Statement
import JvmDerived.Pilot.@@N@@Code
set_option linter.unusedVariables false
set_option linter.unusedSimpArgs false
@@BLOCK:NumsL.lean.txt@@
namespace Jvm.Pilot.@@N@@
open Jvm Jvm.ClassFile Sem Op Lib Jvm.Free Jvm.Stand Jvm.LawKit Jvm.RoadKit Bundle Jvm.Pilot.@@N@@.Jvm.D

section OwnKit
variable {p : Program} {l : Launch} {e : Env} {R : Room} {s : State} {m : MethodId} {args : Array Value} {below : List Frame} {meth : Method} {c : Code} {T T' : State} {locs : List Loc} {cells slots C S : Nat} {Nd : Outcome → State → List Loc → Prop} {Q : Option Value → Heap → List Loc → Prop} {pc n : Nat} {Ls Ls' : Array Slot} {st : List Value} {g g' : JFrame} {Z : State} {a0 : Array Value} {h : Heap}
/-- from T, with the frame g on top, the method comes to its end, and Q is said of what it returns, of the heap and of the places written -/
def Go (p : Program) (e : Env) (below : List Frame) (Nd : Outcome → State → List Loc → Prop) (Q : Option Value → Heap → List Loc → Prop) (T : State) (g : JFrame) : Prop :=
  ∃ s₂ o, Steps p.tables e below (T.setTop g) s₂ ∧ s₂.status = .running ∧ Ended s₂ below o ∧ ∃ v L, o = .returned v ∧ Q v s₂.heap L ∧ Nd o s₂ L
/-- the narrow end, and the wide one (String constants may have come) -/
def Fe (s : State) (C S : Nat) (o : Outcome) (t : State) (L : List Loc) : Prop := FrameEnd s o t L C S
def Fw (s : State) (C S : Nat) (o : Outcome) (t : State) (L : List Loc) : Prop := ReturnedEndW s o t L C S
theorem Fe.of {v : Option Value} (hC : cells ≤ C) (hS : slots ≤ S) : ∀ t, FrameEnd s (.returned v) t locs cells slots → t.heap = T.heap → Fe s C S (.returned v) t locs := fun t q _ => ⟨q.1, q.2.1, q.2.2.mono hC hS⟩
theorem Go.stp (q : ∀ t, Steps p.tables e below (T'.setTop g') t → Steps p.tables e below (T.setTop g) t) (k : Go p e below Nd Q T' g') : Go p e below Nd Q T g := by
  obtain ⟨s₂, o, h1, h2⟩ := k; exact ⟨s₂, o, q _ h1, h2⟩
theorem Go.tr (q : Steps p.tables e below (T.setTop g) (T'.setTop g')) (k : Go p e below Nd Q T' g') : Go p e below Nd Q T g := Go.stp (fun _ r => q.trans r) k
theorem Go.mono {Q' : Option Value → Heap → List Loc → Prop} (k : Go p e below Nd Q T g) (q : ∀ v h L, Q v h L → Q' v h L) : Go p e below Nd Q' T g := by
  obtain ⟨s₂, o, h1, h2, h3, v, L, h4, h5, h6⟩ := k; exact ⟨s₂, o, h1, h2, h3, v, L, h4, q _ _ _ h5, h6⟩
theorem g_aloadN (X : Stand p l e R s m args below meth c T locs cells slots) (hx : p.tables.exec = Jvm.exec) {k : Fin 4} {v : Value} (hd : decode c.code pc = .ok (.aload_n k, 1)) (hn : pc + 1 = n) (hl : Ls[k.val]? = some (.val v)) (hv : v.isRef = true) (k : Go p e below Nd Q T (mkF m n Ls (v :: st))) : Go p e below Nd Q T (mkF m pc Ls st) := by
  subst hn; exact Go.stp (fun t q => XS.aloadN X.here hx rfl hd hl hv q) k
theorem g_aload (X : Stand p l e R s m args below meth c T locs cells slots) (hx : p.tables.exec = Jvm.exec) {k : Nat} {v : Value} (hd : decode c.code pc = .ok (.aload k, 2)) (hn : pc + 2 = n) (hl : Ls[k]? = some (.val v)) (hv : v.isRef = true) (k : Go p e below Nd Q T (mkF m n Ls (v :: st))) : Go p e below Nd Q T (mkF m pc Ls st) := by
  subst hn; exact Go.stp (fun t q => XS.aload X.here hx rfl hd hl hv q) k
theorem g_iloadN (X : Stand p l e R s m args below meth c T locs cells slots) (hx : p.tables.exec = Jvm.exec) {k : Fin 4} {v : Int32} (hd : decode c.code pc = .ok (.iload_n k, 1)) (hn : pc + 1 = n) (hl : Ls[k.val]? = some (.val (.int v))) (k : Go p e below Nd Q T (mkF m n Ls (.int v :: st))) : Go p e below Nd Q T (mkF m pc Ls st) := by
  subst hn; exact Go.stp (fun t q => XS.iloadN X.here hx rfl hd hl q) k
theorem g_iload (X : Stand p l e R s m args below meth c T locs cells slots) (hx : p.tables.exec = Jvm.exec) {k : Nat} {v : Int32} (hd : decode c.code pc = .ok (.iload k, 2)) (hn : pc + 2 = n) (hl : Ls[k]? = some (.val (.int v))) (k : Go p e below Nd Q T (mkF m n Ls (.int v :: st))) : Go p e below Nd Q T (mkF m pc Ls st) := by
  subst hn; exact Go.stp (fun t q => XS.iload X.here hx rfl hd hl q) k
theorem g_istoreN (X : Stand p l e R s m args below meth c T locs cells slots) (hx : p.tables.exec = Jvm.exec) {k : Fin 4} {v : Int32} (hd : decode c.code pc = .ok (.istore_n k, 1)) (hn : pc + 1 = n) (Ls' : Array Slot) (hl : storeLocals Ls k.val (.int v) = some Ls') (k : Go p e below Nd Q T (mkF m n Ls' st)) : Go p e below Nd Q T (mkF m pc Ls (.int v :: st)) := by
  subst hn; exact Go.stp (fun t q => XS.istoreN X.here hx rfl hd rfl hl q) k
theorem g_istore (X : Stand p l e R s m args below meth c T locs cells slots) (hx : p.tables.exec = Jvm.exec) {k : Nat} {v : Int32} (hd : decode c.code pc = .ok (.istore k, 2)) (hn : pc + 2 = n) (Ls' : Array Slot) (hl : storeLocals Ls k (.int v) = some Ls') (k : Go p e below Nd Q T (mkF m n Ls' st)) : Go p e below Nd Q T (mkF m pc Ls (.int v :: st)) := by
  subst hn; exact Go.stp (fun t q => XS.istore X.here hx rfl hd rfl hl q) k
theorem g_lloadN (X : Stand p l e R s m args below meth c T locs cells slots) (hx : p.tables.exec = Jvm.exec) {k : Fin 4} {v : Int64} (hd : decode c.code pc = .ok (.lload_n k, 1)) (hn : pc + 1 = n) (hl : Ls[k.val]? = some (.val (.long v))) (k : Go p e below Nd Q T (mkF m n Ls (.long v :: st))) : Go p e below Nd Q T (mkF m pc Ls st) := by
  subst hn; exact Go.stp (fun t q => XT.lloadN X.here hx rfl hd hl q) k
theorem g_lload (X : Stand p l e R s m args below meth c T locs cells slots) (hx : p.tables.exec = Jvm.exec) {k : Nat} {v : Int64} (hd : decode c.code pc = .ok (.lload k, 2)) (hn : pc + 2 = n) (hl : Ls[k]? = some (.val (.long v))) (k : Go p e below Nd Q T (mkF m n Ls (.long v :: st))) : Go p e below Nd Q T (mkF m pc Ls st) := by
  subst hn; exact Go.stp (fun t q => XT.lload X.here hx rfl hd hl q) k
theorem g_lstoreN (X : Stand p l e R s m args below meth c T locs cells slots) (hx : p.tables.exec = Jvm.exec) {k : Fin 4} {v : Int64} (hd : decode c.code pc = .ok (.lstore_n k, 1)) (hn : pc + 1 = n) (Ls' : Array Slot) (hl : storeLocals Ls k.val (.long v) = some Ls') (k : Go p e below Nd Q T (mkF m n Ls' st)) : Go p e below Nd Q T (mkF m pc Ls (.long v :: st)) := by
  subst hn; exact Go.stp (fun t q => XT.lstoreN X.here hx rfl hd rfl hl q) k
theorem g_lstore (X : Stand p l e R s m args below meth c T locs cells slots) (hx : p.tables.exec = Jvm.exec) {k : Nat} {v : Int64} (hd : decode c.code pc = .ok (.lstore k, 2)) (hn : pc + 2 = n) (Ls' : Array Slot) (hl : storeLocals Ls k (.long v) = some Ls') (k : Go p e below Nd Q T (mkF m n Ls' st)) : Go p e below Nd Q T (mkF m pc Ls (.long v :: st)) := by
  subst hn; exact Go.stp (fun t q => XT.lstore X.here hx rfl hd rfl hl q) k
theorem g_astoreN (X : Stand p l e R s m args below meth c T locs cells slots) (hx : p.tables.exec = Jvm.exec) {k : Fin 4} {v : Value} (hd : decode c.code pc = .ok (.astore_n k, 1)) (hn : pc + 1 = n) (hv : v.isRef = true) (Ls' : Array Slot) (hl : storeLocals Ls k.val v = some Ls') (k : Go p e below Nd Q T (mkF m n Ls' st)) : Go p e below Nd Q T (mkF m pc Ls (v :: st)) := by
  subst hn; exact Go.stp (fun t q => XS.astoreN X.here hx rfl hd rfl hv hl q) k
theorem g_astore (X : Stand p l e R s m args below meth c T locs cells slots) (hx : p.tables.exec = Jvm.exec) {k : Nat} {v : Value} (hd : decode c.code pc = .ok (.astore k, 2)) (hn : pc + 2 = n) (hv : v.isRef = true) (Ls' : Array Slot) (hl : storeLocals Ls k v = some Ls') (k : Go p e below Nd Q T (mkF m n Ls' st)) : Go p e below Nd Q T (mkF m pc Ls (v :: st)) := by
  subst hn; exact Go.stp (fun t q => XS.astore X.here hx rfl hd rfl hv hl q) k
theorem g_iconst (X : Stand p l e R s m args below meth c T locs cells slots) (hx : p.tables.exec = Jvm.exec) {i : Int} (v : Int32) (hd : decode c.code pc = .ok (.iconst i, 1)) (hn : pc + 1 = n) (hv : Int32.ofInt i = v) (k : Go p e below Nd Q T (mkF m n Ls (.int v :: st))) : Go p e below Nd Q T (mkF m pc Ls st) := by
  subst hn hv; exact Go.stp (fun t q => XS.iconst X.here hx rfl hd q) k
theorem g_bipush (X : Stand p l e R s m args below meth c T locs cells slots) (hx : p.tables.exec = Jvm.exec) {i : Int} (v : Int32) (hd : decode c.code pc = .ok (.bipush i, 2)) (hn : pc + 2 = n) (hv : (Int8.ofInt i).toInt32 = v) (k : Go p e below Nd Q T (mkF m n Ls (.int v :: st))) : Go p e below Nd Q T (mkF m pc Ls st) := by
  subst hn hv; exact Go.stp (fun t q => XS.bipush X.here hx rfl hd q) k
theorem g_sipush (X : Stand p l e R s m args below meth c T locs cells slots) (hx : p.tables.exec = Jvm.exec) {i : Int} (v : Int32) (hd : decode c.code pc = .ok (.sipush i, 3)) (hn : pc + 3 = n) (hv : (Int16.ofInt i).toInt32 = v) (k : Go p e below Nd Q T (mkF m n Ls (.int v :: st))) : Go p e below Nd Q T (mkF m pc Ls st) := by
  subst hn hv; exact Go.stp (fun t q => XS.sipush X.here hx rfl hd q) k
theorem g_lconst (X : Stand p l e R s m args below meth c T locs cells slots) (hx : p.tables.exec = Jvm.exec) {j : Fin 2} (v : Int64) (hd : decode c.code pc = .ok (.lconst j, 1)) (hn : pc + 1 = n) (hv : Int64.ofNat j = v) (k : Go p e below Nd Q T (mkF m n Ls (.long v :: st))) : Go p e below Nd Q T (mkF m pc Ls st) := by
  subst hn hv; exact Go.stp (fun t q => XT.lconst X.here hx rfl hd q) k
theorem g_aconstNull (X : Stand p l e R s m args below meth c T locs cells slots) (hx : p.tables.exec = Jvm.exec) (hd : decode c.code pc = .ok (.aconst_null, 1)) (hn : pc + 1 = n) (k : Go p e below Nd Q T (mkF m n Ls (.null :: st))) : Go p e below Nd Q T (mkF m pc Ls st) := by
  subst hn; exact Go.stp (fun t q => XS.aconstNull X.here hx rfl hd q) k
theorem g_iadd (X : Stand p l e R s m args below meth c T locs cells slots) (hx : p.tables.exec = Jvm.exec) {x y : Int32} (hd : decode c.code pc = .ok (.iadd, 1)) (hn : pc + 1 = n) (k : Go p e below Nd Q T (mkF m n Ls (.int (x + y) :: st))) : Go p e below Nd Q T (mkF m pc Ls (.int y :: .int x :: st)) := by
  subst hn; exact Go.stp (fun t q => XS.iadd X.here hx rfl hd rfl q) k
theorem g_isub (X : Stand p l e R s m args below meth c T locs cells slots) (hx : p.tables.exec = Jvm.exec) {x y : Int32} (hd : decode c.code pc = .ok (.isub, 1)) (hn : pc + 1 = n) (k : Go p e below Nd Q T (mkF m n Ls (.int (x - y) :: st))) : Go p e below Nd Q T (mkF m pc Ls (.int y :: .int x :: st)) := by
  subst hn; exact Go.stp (fun t q => XS.isub X.here hx rfl hd rfl q) k
theorem g_imul (X : Stand p l e R s m args below meth c T locs cells slots) (hx : p.tables.exec = Jvm.exec) {x y : Int32} (hd : decode c.code pc = .ok (.imul, 1)) (hn : pc + 1 = n) (k : Go p e below Nd Q T (mkF m n Ls (.int (x * y) :: st))) : Go p e below Nd Q T (mkF m pc Ls (.int y :: .int x :: st)) := by
  subst hn; exact Go.stp (fun t q => XS.imul X.here hx rfl hd rfl q) k
theorem g_iand (X : Stand p l e R s m args below meth c T locs cells slots) (hx : p.tables.exec = Jvm.exec) {x y : Int32} (hd : decode c.code pc = .ok (.iand, 1)) (hn : pc + 1 = n) (k : Go p e below Nd Q T (mkF m n Ls (.int (x &&& y) :: st))) : Go p e below Nd Q T (mkF m pc Ls (.int y :: .int x :: st)) := by
  subst hn; exact Go.stp (fun t q => XS.iand X.here hx rfl hd rfl q) k
theorem g_ior (X : Stand p l e R s m args below meth c T locs cells slots) (hx : p.tables.exec = Jvm.exec) {x y : Int32} (hd : decode c.code pc = .ok (.ior, 1)) (hn : pc + 1 = n) (k : Go p e below Nd Q T (mkF m n Ls (.int (x ||| y) :: st))) : Go p e below Nd Q T (mkF m pc Ls (.int y :: .int x :: st)) := by
  subst hn; exact Go.stp (fun t q => XT.ior X.here hx rfl hd rfl q) k
theorem g_ixor (X : Stand p l e R s m args below meth c T locs cells slots) (hx : p.tables.exec = Jvm.exec) {x y : Int32} (hd : decode c.code pc = .ok (.ixor, 1)) (hn : pc + 1 = n) (k : Go p e below Nd Q T (mkF m n Ls (.int (x ^^^ y) :: st))) : Go p e below Nd Q T (mkF m pc Ls (.int y :: .int x :: st)) := by
  subst hn; exact Go.stp (fun t q => XT.ixor X.here hx rfl hd rfl q) k
theorem g_ishl (X : Stand p l e R s m args below meth c T locs cells slots) (hx : p.tables.exec = Jvm.exec) {x y : Int32} (hd : decode c.code pc = .ok (.ishl, 1)) (hn : pc + 1 = n) (k : Go p e below Nd Q T (mkF m n Ls (.int (x <<< (y &&& 31)) :: st))) : Go p e below Nd Q T (mkF m pc Ls (.int y :: .int x :: st)) := by
  subst hn; exact Go.stp (fun t q => XT.ishl X.here hx rfl hd rfl q) k
theorem g_ishr (X : Stand p l e R s m args below meth c T locs cells slots) (hx : p.tables.exec = Jvm.exec) {x y : Int32} (hd : decode c.code pc = .ok (.ishr, 1)) (hn : pc + 1 = n) (k : Go p e below Nd Q T (mkF m n Ls (.int (x >>> (y &&& 31)) :: st))) : Go p e below Nd Q T (mkF m pc Ls (.int y :: .int x :: st)) := by
  subst hn; exact Go.stp (fun t q => XT.ishr X.here hx rfl hd rfl q) k
theorem g_iushr (X : Stand p l e R s m args below meth c T locs cells slots) (hx : p.tables.exec = Jvm.exec) {x y : Int32} (hd : decode c.code pc = .ok (.iushr, 1)) (hn : pc + 1 = n) (k : Go p e below Nd Q T (mkF m n Ls (.int (XT.ushr x y) :: st))) : Go p e below Nd Q T (mkF m pc Ls (.int y :: .int x :: st)) := by
  subst hn; exact Go.stp (fun t q => XT.iushr X.here hx rfl hd rfl q) k
theorem g_irem (X : Stand p l e R s m args below meth c T locs cells slots) (hx : p.tables.exec = Jvm.exec) {x y : Int32} (hd : decode c.code pc = .ok (.irem, 1)) (hn : pc + 1 = n) (hy : y ≠ 0) (k : Go p e below Nd Q T (mkF m n Ls (.int (x % y) :: st))) : Go p e below Nd Q T (mkF m pc Ls (.int y :: .int x :: st)) := by
  subst hn; exact Go.stp (fun t q => iremM X hx rfl hd rfl hy q) k
theorem g_ladd (X : Stand p l e R s m args below meth c T locs cells slots) (hx : p.tables.exec = Jvm.exec) {x y : Int64} (hd : decode c.code pc = .ok (.ladd, 1)) (hn : pc + 1 = n) (k : Go p e below Nd Q T (mkF m n Ls (.long (x + y) :: st))) : Go p e below Nd Q T (mkF m pc Ls (.long y :: .long x :: st)) := by
  subst hn; exact Go.stp (fun t q => XT.ladd X.here hx rfl hd rfl q) k
theorem g_lsub (X : Stand p l e R s m args below meth c T locs cells slots) (hx : p.tables.exec = Jvm.exec) {x y : Int64} (hd : decode c.code pc = .ok (.lsub, 1)) (hn : pc + 1 = n) (k : Go p e below Nd Q T (mkF m n Ls (.long (x - y) :: st))) : Go p e below Nd Q T (mkF m pc Ls (.long y :: .long x :: st)) := by
  subst hn; exact Go.stp (fun t q => XT.lsub X.here hx rfl hd rfl q) k
theorem g_lmul (X : Stand p l e R s m args below meth c T locs cells slots) (hx : p.tables.exec = Jvm.exec) {x y : Int64} (hd : decode c.code pc = .ok (.lmul, 1)) (hn : pc + 1 = n) (k : Go p e below Nd Q T (mkF m n Ls (.long (x * y) :: st))) : Go p e below Nd Q T (mkF m pc Ls (.long y :: .long x :: st)) := by
  subst hn; exact Go.stp (fun t q => XT.lmul X.here hx rfl hd rfl q) k
theorem g_land (X : Stand p l e R s m args below meth c T locs cells slots) (hx : p.tables.exec = Jvm.exec) {x y : Int64} (hd : decode c.code pc = .ok (.land, 1)) (hn : pc + 1 = n) (k : Go p e below Nd Q T (mkF m n Ls (.long (x &&& y) :: st))) : Go p e below Nd Q T (mkF m pc Ls (.long y :: .long x :: st)) := by
  subst hn; exact Go.stp (fun t q => XT.land X.here hx rfl hd rfl q) k
theorem g_ldiv (X : Stand p l e R s m args below meth c T locs cells slots) (hx : p.tables.exec = Jvm.exec) {x y : Int64} (hd : decode c.code pc = .ok (.ldiv, 1)) (hn : pc + 1 = n) (hy : y ≠ 0) (k : Go p e below Nd Q T (mkF m n Ls (.long (x / y) :: st))) : Go p e below Nd Q T (mkF m pc Ls (.long y :: .long x :: st)) := by
  subst hn; exact Go.stp (fun t q => XT.ldiv X.here hx rfl hd rfl hy q) k
theorem g_lrem (X : Stand p l e R s m args below meth c T locs cells slots) (hx : p.tables.exec = Jvm.exec) {x y : Int64} (hd : decode c.code pc = .ok (.lrem, 1)) (hn : pc + 1 = n) (hy : y ≠ 0) (k : Go p e below Nd Q T (mkF m n Ls (.long (x - (x / y) * y) :: st))) : Go p e below Nd Q T (mkF m pc Ls (.long y :: .long x :: st)) := by
  subst hn; exact Go.stp (fun t q => XT.lrem X.here hx rfl hd rfl hy q) k
theorem g_lcmp (X : Stand p l e R s m args below meth c T locs cells slots) (hx : p.tables.exec = Jvm.exec) {x y : Int64} (hd : decode c.code pc = .ok (.lcmp, 1)) (hn : pc + 1 = n) (k : Go p e below Nd Q T (mkF m n Ls (.int (XT.cmpL x y) :: st))) : Go p e below Nd Q T (mkF m pc Ls (.long y :: .long x :: st)) := by
  subst hn; exact Go.stp (fun t q => XT.lcmp X.here hx rfl hd rfl q) k
theorem g_lshr (X : Stand p l e R s m args below meth c T locs cells slots) (hx : p.tables.exec = Jvm.exec) {x : Int64} {y : Int32} (hd : decode c.code pc = .ok (.lshr, 1)) (hn : pc + 1 = n) (k : Go p e below Nd Q T (mkF m n Ls (.long (x >>> (y.toInt64 &&& 63)) :: st))) : Go p e below Nd Q T (mkF m pc Ls (.int y :: .long x :: st)) := by
  subst hn; exact Go.stp (fun t q => XT.lshr X.here hx rfl hd rfl q) k
theorem g_lushr (X : Stand p l e R s m args below meth c T locs cells slots) (hx : p.tables.exec = Jvm.exec) {x : Int64} {y : Int32} (hd : decode c.code pc = .ok (.lushr, 1)) (hn : pc + 1 = n) (k : Go p e below Nd Q T (mkF m n Ls (.long (XT.ushrL x y) :: st))) : Go p e below Nd Q T (mkF m pc Ls (.int y :: .long x :: st)) := by
  subst hn; exact Go.stp (fun t q => XT.lushr X.here hx rfl hd rfl q) k
theorem g_lneg (X : Stand p l e R s m args below meth c T locs cells slots) (hx : p.tables.exec = Jvm.exec) {x : Int64} (hd : decode c.code pc = .ok (.lneg, 1)) (hn : pc + 1 = n) (k : Go p e below Nd Q T (mkF m n Ls (.long (-x) :: st))) : Go p e below Nd Q T (mkF m pc Ls (.long x :: st)) := by
  subst hn; exact Go.stp (fun t q => XT.lneg X.here hx rfl hd rfl q) k
theorem g_i2l (X : Stand p l e R s m args below meth c T locs cells slots) (hx : p.tables.exec = Jvm.exec) {x : Int32} (hd : decode c.code pc = .ok (.i2l, 1)) (hn : pc + 1 = n) (k : Go p e below Nd Q T (mkF m n Ls (.long x.toInt64 :: st))) : Go p e below Nd Q T (mkF m pc Ls (.int x :: st)) := by
  subst hn; exact Go.stp (fun t q => XT.i2l X.here hx rfl hd rfl q) k
theorem g_l2i (X : Stand p l e R s m args below meth c T locs cells slots) (hx : p.tables.exec = Jvm.exec) {x : Int64} (hd : decode c.code pc = .ok (.l2i, 1)) (hn : pc + 1 = n) (k : Go p e below Nd Q T (mkF m n Ls (.int x.toInt32 :: st))) : Go p e below Nd Q T (mkF m pc Ls (.long x :: st)) := by
  subst hn; exact Go.stp (fun t q => XT.l2i X.here hx rfl hd rfl q) k
theorem g_i2b (X : Stand p l e R s m args below meth c T locs cells slots) (hx : p.tables.exec = Jvm.exec) {x : Int32} (hd : decode c.code pc = .ok (.i2b, 1)) (hn : pc + 1 = n) (k : Go p e below Nd Q T (mkF m n Ls (.int x.toInt8.toInt32 :: st))) : Go p e below Nd Q T (mkF m pc Ls (.int x :: st)) := by
  subst hn; exact Go.stp (fun t q => XT.i2b X.here hx rfl hd rfl q) k
theorem g_i2c (X : Stand p l e R s m args below meth c T locs cells slots) (hx : p.tables.exec = Jvm.exec) {x : Int32} (hd : decode c.code pc = .ok (.i2c, 1)) (hn : pc + 1 = n) (k : Go p e below Nd Q T (mkF m n Ls (.int x.toUInt32.toUInt16.toUInt32.toInt32 :: st))) : Go p e below Nd Q T (mkF m pc Ls (.int x :: st)) := by
  subst hn; exact Go.stp (fun t q => XT.i2c X.here hx rfl hd rfl q) k
theorem g_dup (X : Stand p l e R s m args below meth c T locs cells slots) (hx : p.tables.exec = Jvm.exec) {x : Value} (hd : decode c.code pc = .ok (.dup, 1)) (hn : pc + 1 = n) (hc : x.category = 1) (k : Go p e below Nd Q T (mkF m n Ls (x :: x :: st))) : Go p e below Nd Q T (mkF m pc Ls (x :: st)) := by
  subst hn; exact Go.stp (fun t q => XS.dup X.here hx rfl hd rfl hc q) k
theorem g_dupX1 (X : Stand p l e R s m args below meth c T locs cells slots) (hx : p.tables.exec = Jvm.exec) {x y : Value} (hd : decode c.code pc = .ok (.dup_x1, 1)) (hn : pc + 1 = n) (hc : x.category = 1) (hc' : y.category = 1) (k : Go p e below Nd Q T (mkF m n Ls (x :: y :: x :: st))) : Go p e below Nd Q T (mkF m pc Ls (x :: y :: st)) := by
  subst hn; exact Go.stp (fun t q => XT.dupX1 X.here hx rfl hd rfl hc hc' q) k
theorem g_pop (X : Stand p l e R s m args below meth c T locs cells slots) (hx : p.tables.exec = Jvm.exec) {x : Value} (hd : decode c.code pc = .ok (.pop, 1)) (hn : pc + 1 = n) (hc : x.category = 1) (k : Go p e below Nd Q T (mkF m n Ls st)) : Go p e below Nd Q T (mkF m pc Ls (x :: st)) := by
  subst hn; exact Go.stp (fun t q => XT.pop X.here hx rfl hd rfl hc q) k
theorem g_iinc (X : Stand p l e R s m args below meth c T locs cells slots) (hx : p.tables.exec = Jvm.exec) {k : Nat} {cst : Int} {x : Int32} (hd : decode c.code pc = .ok (.iinc k cst, 3)) (hn : pc + 3 = n) (hl : Ls[k]? = some (.val (.int x))) (v : Int32) (hv : x + Int32.ofInt cst = v) (Ls' : Array Slot) (hl' : storeLocals Ls k (.int v) = some Ls') (k : Go p e below Nd Q T (mkF m n Ls' st)) : Go p e below Nd Q T (mkF m pc Ls st) := by
  subst hn hv; exact Go.stp (fun t q => XS.iinc X.here hx rfl hd hl hl' q) k
theorem g_goto (X : Stand p l e R s m args below meth c T locs cells slots) (hx : p.tables.exec = Jvm.exec) {o : Int} (hd : decode c.code pc = .ok (.goto o, 3)) (ho : 0 ≤ (pc : Int) + o) (hp : ((pc : Int) + o).toNat = n) (k : Go p e below Nd Q T (mkF m n Ls st)) : Go p e below Nd Q T (mkF m pc Ls st) :=
  Go.stp (fun t q => XS.goto X.here hx rfl rfl hd ho hp q) k
/-- a branch on an int: P is what it asks -/
theorem g_if (X : Stand p l e R s m args below meth c T locs cells slots) (hx : p.tables.exec = Jvm.exec) {cd : ClassFile.Cond} {o : Int} {x : Int32} {n' : Nat} (P : Prop) [Decidable P] (hP : ifCond.holds cd x = decide P) (hd : decode c.code pc = .ok (.ifCond cd o, 3)) (ho : 0 ≤ (pc : Int) + o) (hp : ((pc : Int) + o).toNat = n) (hn : pc + 3 = n')
    (kY : P → Go p e below Nd Q T (mkF m n Ls st)) (kN : ¬ P → Go p e below Nd Q T (mkF m n' Ls st)) : Go p e below Nd Q T (mkF m pc Ls (.int x :: st)) := by
  subst hn
  by_cases q : P
  · exact Go.stp (fun t r => XS.ifYes X.here hx rfl rfl hd rfl (by rw [hP]; exact decide_eq_true q) ho hp r) (kY q)
  · exact Go.stp (fun t r => XS.ifNo X.here hx rfl hd rfl (by rw [hP]; exact decide_eq_false q) r) (kN q)
theorem g_icmp (X : Stand p l e R s m args below meth c T locs cells slots) (hx : p.tables.exec = Jvm.exec) {cd : ClassFile.Cond} {o : Int} {x y : Int32} {n' : Nat} (P : Prop) [Decidable P] (hP : if_icmp.holds cd x y = decide P) (hd : decode c.code pc = .ok (.if_icmp cd o, 3)) (ho : 0 ≤ (pc : Int) + o) (hp : ((pc : Int) + o).toNat = n) (hn : pc + 3 = n')
    (kY : P → Go p e below Nd Q T (mkF m n Ls st)) (kN : ¬ P → Go p e below Nd Q T (mkF m n' Ls st)) : Go p e below Nd Q T (mkF m pc Ls (.int y :: .int x :: st)) := by
  subst hn
  by_cases q : P
  · exact Go.stp (fun t r => XS.icmpYes X.here hx rfl rfl hd rfl (by rw [hP]; exact decide_eq_true q) ho hp r) (kY q)
  · exact Go.stp (fun t r => XS.icmpNo X.here hx rfl hd rfl (by rw [hP]; exact decide_eq_false q) r) (kN q)
theorem own_acV (cd : ACond) (x y : Value) : XT.acmp cd x y = acV cd (decide (x = y)) := by
  cases cd <;> by_cases q : x = y <;> simp [XT.acmp, acV, q]
theorem g_acmp (X : Stand p l e R s m args below meth c T locs cells slots) (hx : p.tables.exec = Jvm.exec) {cd : ACond} {o : Int} {x y : Value} {n' : Nat} (P : Prop) [Decidable P] (hP : acV cd (decide (x = y)) = decide P) (h1 : x.isRef = true) (h2 : y.isRef = true) (hd : decode c.code pc = .ok (.if_acmp cd o, 3)) (ho : 0 ≤ (pc : Int) + o) (hp : ((pc : Int) + o).toNat = n) (hn : pc + 3 = n')
    (kY : P → Go p e below Nd Q T (mkF m n Ls st)) (kN : ¬ P → Go p e below Nd Q T (mkF m n' Ls st)) : Go p e below Nd Q T (mkF m pc Ls (y :: x :: st)) := by
  subst hn
  by_cases q : P
  · exact Go.stp (fun t r => XT.acmpYes X.here hx rfl rfl hd rfl h1 h2 (by rw [own_acV, hP]; exact decide_eq_true q) ho hp r) (kY q)
  · exact Go.stp (fun t r => XT.acmpNo X.here hx rfl hd rfl h1 h2 (by rw [own_acV, hP]; exact decide_eq_false q) r) (kN q)
theorem own_ceq (x y : Int32) : if_icmp.holds .eq x y = decide (x = y) := by by_cases q : x = y <;> simp [if_icmp.holds, q]
theorem own_cne (x y : Int32) : if_icmp.holds .ne x y = decide (¬ x = y) := by by_cases q : x = y <;> simp [if_icmp.holds, q]
theorem own_clt (x y : Int32) : if_icmp.holds .lt x y = decide (x < y) := rfl
theorem own_cge (x y : Int32) : if_icmp.holds .ge x y = decide (y ≤ x) := rfl
theorem own_cgt (x y : Int32) : if_icmp.holds .gt x y = decide (y < x) := rfl
theorem own_cle (x y : Int32) : if_icmp.holds .le x y = decide (x ≤ y) := rfl
theorem own_zeq (x : Int32) : ifCond.holds .eq x = decide (x = 0) := by rw [if0]; exact own_ceq x 0
theorem own_zne (x : Int32) : ifCond.holds .ne x = decide (¬ x = 0) := by rw [if0]; exact own_cne x 0
theorem own_zlt (x : Int32) : ifCond.holds .lt x = decide (x < 0) := rfl
theorem own_zge (x : Int32) : ifCond.holds .ge x = decide (0 ≤ x) := rfl
theorem own_zgt (x : Int32) : ifCond.holds .gt x = decide (0 < x) := rfl
theorem own_zle (x : Int32) : ifCond.holds .le x = decide (x ≤ 0) := rfl
theorem own_aeq (x y : Value) : acV .eq (decide (x = y)) = decide (x = y) := rfl
theorem own_ane (x y : Value) : acV .ne (decide (x = y)) = decide (¬ x = y) := by by_cases q : x = y <;> simp [acV, q]
theorem g_ifnullNo (X : Stand p l e R s m args below meth c T locs cells slots) (hx : p.tables.exec = Jvm.exec) {o : Int} {b : Nat} (hd : decode c.code pc = .ok (.ifnull o, 3)) (hn : pc + 3 = n) (k : Go p e below Nd Q T (mkF m n Ls st)) : Go p e below Nd Q T (mkF m pc Ls (.ref b :: st)) := by
  subst hn; exact Go.stp (fun t q => XS.ifnullNo X.here hx rfl hd rfl q) k
theorem g_ifnullYes (X : Stand p l e R s m args below meth c T locs cells slots) (hx : p.tables.exec = Jvm.exec) {o : Int} (hd : decode c.code pc = .ok (.ifnull o, 3)) (ho : 0 ≤ (pc : Int) + o) (hp : ((pc : Int) + o).toNat = n) (k : Go p e below Nd Q T (mkF m n Ls st)) : Go p e below Nd Q T (mkF m pc Ls (.null :: st)) :=
  Go.stp (fun t q => XS.ifnullYes X.here hx rfl rfl hd rfl ho hp q) k
theorem g_ifnonnullYes (X : Stand p l e R s m args below meth c T locs cells slots) (hx : p.tables.exec = Jvm.exec) {o : Int} {b : Nat} (hd : decode c.code pc = .ok (.ifnonnull o, 3)) (ho : 0 ≤ (pc : Int) + o) (hp : ((pc : Int) + o).toNat = n) (k : Go p e below Nd Q T (mkF m n Ls st)) : Go p e below Nd Q T (mkF m pc Ls (.ref b :: st)) :=
  Go.stp (fun t q => XT.ifnonnullYes X.here hx rfl rfl hd rfl ho hp q) k
/-! the ends -/
theorem g_ret (X : Stand p l e R s m args below meth c T locs cells slots) (hx : p.tables.exec = Jvm.exec) {i : Instr} {t : FieldType} {w : Value} (hret : meth.sig.returnType = some t) (hlk : meth.locks = false) (hnw : narrow t w = w)
    (hi : (i = .ireturn ∧ (t = .int ∨ t = .boolean ∨ t = .byte ∨ t = .char ∨ t = .short) ∧ ∃ z, w = .int z) ∨ (i = .lreturn ∧ t = .long ∧ ∃ z, w = .long z) ∨ (i = .dreturn ∧ t = .double ∧ ∃ z, w = .double z) ∨ (i = .freturn ∧ t = .float ∧ ∃ z, w = .float z) ∨ (i = .areturn ∧ t.isReference = true ∧ w.isRef = true))
    (hd : decode c.code pc = .ok (i, 1)) (hN : ∀ t, FrameEnd s (.returned (some w)) t locs cells slots → t.heap = T.heap → Nd (.returned (some w)) t locs) (hQ : Q (some w) T.heap locs) : Go p e below Nd Q T (mkF m pc Ls (w :: st)) := by
  obtain ⟨fs, hr, hrun, hended, hW, hsame⟩ := X.leave (v := some w) (fun q => by rw [hret] at q; cases q) hlk
  exact ⟨_, _, retOut X hx hret hnw hi hd hr, hrun, hended, _, _, rfl, hQ, hN _ ⟨⟨_, rfl⟩, hW, hsame⟩ rfl⟩
theorem g_retI (X : Stand p l e R s m args below meth c T locs cells slots) (hx : p.tables.exec = Jvm.exec) {w : Int32} (hret : meth.sig.returnType = some .int) (hlk : meth.locks = false) (hd : decode c.code pc = .ok (.ireturn, 1)) (hN : ∀ t, FrameEnd s (.returned (some (.int w))) t locs cells slots → t.heap = T.heap → Nd (.returned (some (.int w))) t locs) (hQ : Q (some (.int w)) T.heap locs) : Go p e below Nd Q T (mkF m pc Ls (.int w :: st)) :=
  g_ret X hx hret hlk rfl (Or.inl ⟨rfl, Or.inl rfl, _, rfl⟩) hd hN hQ
theorem g_retJ (X : Stand p l e R s m args below meth c T locs cells slots) (hx : p.tables.exec = Jvm.exec) {w : Int64} (hret : meth.sig.returnType = some .long) (hlk : meth.locks = false) (hd : decode c.code pc = .ok (.lreturn, 1)) (hN : ∀ t, FrameEnd s (.returned (some (.long w))) t locs cells slots → t.heap = T.heap → Nd (.returned (some (.long w))) t locs) (hQ : Q (some (.long w)) T.heap locs) : Go p e below Nd Q T (mkF m pc Ls (.long w :: st)) :=
  g_ret X hx hret hlk rfl (Or.inr (Or.inl ⟨rfl, rfl, _, rfl⟩)) hd hN hQ
theorem g_retZ (X : Stand p l e R s m args below meth c T locs cells slots) (hx : p.tables.exec = Jvm.exec) {w : Int32} (hw01 : w = 0 ∨ w = 1) (hret : meth.sig.returnType = some .boolean) (hlk : meth.locks = false) (hd : decode c.code pc = .ok (.ireturn, 1)) (hN : ∀ t, FrameEnd s (.returned (some (.int w))) t locs cells slots → t.heap = T.heap → Nd (.returned (some (.int w))) t locs) (hQ : Q (some (.int w)) T.heap locs) : Go p e below Nd Q T (mkF m pc Ls (.int w :: st)) :=
  g_ret X hx hret hlk (by rcases hw01 with rfl | rfl <;> rfl) (Or.inl ⟨rfl, Or.inr (Or.inl rfl), _, rfl⟩) hd hN hQ
theorem g_retN (X : Stand p l e R s m args below meth c T locs cells slots) (hx : p.tables.exec = Jvm.exec) {w : Int32} {t : FieldType} (ht : t = .byte ∨ t = .char ∨ t = .short) (hnw : narrow t (.int w) = .int w) (hret : meth.sig.returnType = some t) (hlk : meth.locks = false) (hd : decode c.code pc = .ok (.ireturn, 1)) (hN : ∀ t, FrameEnd s (.returned (some (.int w))) t locs cells slots → t.heap = T.heap → Nd (.returned (some (.int w))) t locs) (hQ : Q (some (.int w)) T.heap locs) : Go p e below Nd Q T (mkF m pc Ls (.int w :: st)) :=
  g_ret X hx hret hlk hnw (Or.inl ⟨rfl, by rcases ht with rfl | rfl | rfl <;> simp, _, rfl⟩) hd hN hQ
theorem g_retA (X : Stand p l e R s m args below meth c T locs cells slots) (hx : p.tables.exec = Jvm.exec) {w : Value} {t : FieldType} (hret : meth.sig.returnType = some t) (ht : t.isReference = true) (hw : w.isRef = true) (hlk : meth.locks = false) (hd : decode c.code pc = .ok (.areturn, 1)) (hN : ∀ t, FrameEnd s (.returned (some w)) t locs cells slots → t.heap = T.heap → Nd (.returned (some w)) t locs) (hQ : Q (some w) T.heap locs) : Go p e below Nd Q T (mkF m pc Ls (w :: st)) :=
  g_ret X hx hret hlk (by rcases ref_cases hw with rfl | ⟨a, rfl⟩ <;> cases t <;> first | rfl | cases ht) (Or.inr (Or.inr (Or.inr (Or.inr ⟨rfl, ht, hw⟩)))) hd hN hQ
theorem g_retV (X : Stand p l e R s m args below meth c T locs cells slots) (hx : p.tables.exec = Jvm.exec) (hret : meth.sig.returnType = none) (hlk : meth.locks = false) (hd : decode c.code pc = .ok (.return_, 1)) (hN : ∀ t, FrameEnd s (.returned none) t locs cells slots → t.heap = T.heap → Nd (.returned none) t locs) (hQ : Q none T.heap locs) : Go p e below Nd Q T (mkF m pc Ls []) := by
  obtain ⟨fs, hr, hrun, hended, hW, hsame⟩ := X.leave (v := none) (fun _ => rfl) hlk
  exact ⟨_, _, X.returnOut hx hret hd hr, hrun, hended, _, _, rfl, hQ, hN _ ⟨⟨_, rfl⟩, hW, hsame⟩ rfl⟩
/-! tables and heap -/
variable {own : String} {index : Nat}
theorem g_ldcI (X : Stand p l e R s m args below meth c T locs cells slots) (hx : p.tables.exec = Jvm.exec) (hZ : Z.Warmed39 s.vm) {v : Int32} (hown : s.vm.findClass own = some m.cls) (w : (Cond.constant own index v).before a0 Z = true) (hd : decode c.code pc = .ok (.ldc index, 2)) (hn : pc + 2 = n) (k : Go p e below Nd Q T (mkF m n Ls (.int v :: st))) : Go p e below Nd Q T (mkF m pc Ls st) := by
  subst hn; exact Go.stp (fun t q => X.ldcI hx hown (mvT hZ w) rfl hd q) k
theorem g_ldc2 (X : Stand p l e R s m args below meth c T locs cells slots) (hx : p.tables.exec = Jvm.exec) (hZ : Z.Warmed39 s.vm) {v : Int64} (hown : s.vm.findClass own = some m.cls) (w : (Cond.constantLong own index v).before a0 Z = true) (hd : decode c.code pc = .ok (.ldc2_w index, 3)) (hn : pc + 3 = n) (k : Go p e below Nd Q T (mkF m n Ls (.long v :: st))) : Go p e below Nd Q T (mkF m pc Ls st) := by
  subst hn; exact Go.stp (fun t q => X.ldc2J hx hown (mvT hZ w) rfl hd q) k
theorem g_getF (X : Stand p l e R s m args below meth c T locs cells slots) (hx : p.tables.exec = Jvm.exec) (hZ : Z.Warmed39 s.vm) {O f d : String} (hown : s.vm.findClass own = some m.cls) (w : (Cond.fieldLink own index O f d).before a0 Z = true) (eT : T.heap = h) {a : Nat} {v : Value} (F : Fld Z h a O f d v) (hd : decode c.code pc = .ok (.getfield index, 3)) (hn : pc + 3 = n)
    (k : ∀ T', Stand p l e R s m args below meth c T' locs cells slots → T'.heap = h → Go p e below Nd Q T' (mkF m n Ls (v :: st))) : Go p e below Nd Q T (mkF m pc Ls (.ref a :: st)) := by
  subst hn
  obtain ⟨T1, X1, e1, st1⟩ := getF X hx hZ hown (host := "") (Or.inl w) Via.refl eT F (g := mkF m pc Ls (.ref a :: st)) rfl rfl hd
  exact Go.stp st1 (k T1 X1 e1)
theorem g_getS (X : Stand p l e R s m args below meth c T locs cells slots) (hx : p.tables.exec = Jvm.exec) (hZ : Z.Warmed39 s.vm) {O f d : String} (hown : s.vm.findClass own = some m.cls) (w : (Cond.fieldLink own index O f d).before a0 Z = true) (eT : T.heap = h) {v : Value} (F : Sta Z h O f d v) (hd : decode c.code pc = .ok (.getstatic index, 3)) (hn : pc + 3 = n)
    (k : ∀ T', Stand p l e R s m args below meth c T' locs cells slots → T'.heap = h → Go p e below Nd Q T' (mkF m n Ls (v :: st))) : Go p e below Nd Q T (mkF m pc Ls st) := by
  subst hn
  obtain ⟨T1, X1, e1, st1⟩ := getS X hx hZ (host := "") hown w Via.refl eT F (g := mkF m pc Ls st) rfl hd
  exact Go.stp st1 (k T1 X1 e1)
theorem g_putF (X : Stand p l e R s m args below meth c T locs cells slots) (hx : p.tables.exec = Jvm.exec) (hZ : Z.Warmed39 s.vm) {O f d K : String} {kk : Nat} {ty : FieldType} (hown : s.vm.findClass own = some m.cls) (w : (Cond.fieldLink own index O f d).before a0 Z = true) (eT : T.heap = h) {a : Nat} {v old : Value} (F : Fld Z h a O f d old) (E : Exa Z h a K)
    (L : (Cond.lays K O f d).before a0 Z = true ∨ ((Cond.laysFinal K O f d).before a0 Z = true ∧ own = O ∧ meth.name = "<init>")) (wi : (Cond.instantiable K kk).before a0 Z = true) (hty : parseFieldDescriptor d = some ty) (hnw : narrow ty v = v) (hf : fits ty v = true) (hd : decode c.code pc = .ok (.putfield index, 3)) (hn : pc + 3 = n)
    (k : ∀ T' h', Stand p l e R s m args below meth c T' (locs ++ [⟨a, Jvm.RoadKit.slotOf Z O f d⟩]) cells slots → T'.heap = h' → Wr h h' a (Jvm.RoadKit.slotOf Z O f d) v → Go p e below Nd Q T' (mkF m n Ls st)) : Go p e below Nd Q T (mkF m pc Ls (v :: .ref a :: st)) := by
  subst hn
  obtain ⟨T1, h1, X1, e1, W1, st1⟩ := putF X hx hZ hown (host := "") (Or.inl w) Via.refl eT F E L wi hty hnw hf (g := mkF m pc Ls (v :: .ref a :: st)) rfl rfl hd
  exact Go.stp st1 (k T1 h1 X1 e1 W1)
theorem g_new (X : Stand p l e R s m args below meth c T locs cells slots) (hx : p.tables.exec = Jvm.exec) (hZ : Z.Warmed39 s.vm) {K : String} {nn : Nat} (hown : s.vm.findClass own = some m.cls) (w : (Cond.classLink own index K).before a0 Z = true) (wi : (Cond.instantiable K nn).before a0 Z = true) (wz : (Cond.initialized K).before a0 Z = true) (eT : T.heap = h) (hd : decode c.code pc = .ok (.new index, 3)) (hn : pc + 3 = n) (hc : cells + 1 ≤ R.cells) (hl : slots + nn ≤ R.slots)
    (k : ∀ T' h' a, Stand p l e R s m args below meth c T' locs (cells + 1) (slots + nn) → T'.heap = h' → a = h.size → Ext h h' → Exa Z h' a K → (∀ {O f d : String} {ty : FieldType}, Laid Z a0 K O f d → parseFieldDescriptor d = some ty → Fld Z h' a O f d (defaultValue ty)) → Go p e below Nd Q T' (mkF m n Ls (.ref a :: st))) : Go p e below Nd Q T (mkF m pc Ls st) := by
  subst hn
  obtain ⟨T1, h1, X1, e1, E1, A1, D1, -, st1⟩ := newO X hx hZ hown w wi wz eT (g := mkF m pc Ls st) rfl hd hc hl
  exact Go.stp st1 (k T1 h1 h.size X1 e1 rfl E1 A1 D1)
theorem g_cast (X : Stand p l e R s m args below meth c T locs cells slots) (hx : p.tables.exec = Jvm.exec) (hZ : Z.Warmed39 s.vm) {K : String} (hown : s.vm.findClass own = some m.cls) (w : (Cond.classLink own index K).before a0 Z = true) (eT : T.heap = h) {a : Nat} (F : Ins Z h a K true) (hd : decode c.code pc = .ok (.checkcast index, 3)) (hn : pc + 3 = n)
    (k : ∀ T', Stand p l e R s m args below meth c T' locs cells slots → T'.heap = h → Go p e below Nd Q T' (mkF m n Ls (.ref a :: st))) : Go p e below Nd Q T (mkF m pc Ls (.ref a :: st)) := by
  subst hn
  obtain ⟨T1, X1, e1, st1⟩ := castY X hx hZ hown w eT F (g := mkF m pc Ls (.ref a :: st)) rfl rfl hd
  exact Go.stp st1 (k T1 X1 e1)
theorem g_inst (X : Stand p l e R s m args below meth c T locs cells slots) (hx : p.tables.exec = Jvm.exec) (hZ : Z.Warmed39 s.vm) {K : String} (hown : s.vm.findClass own = some m.cls) (w : (Cond.classLink own index K).before a0 Z = true) (eT : T.heap = h) {a : Nat} (F : Ins Z h a K true) (hd : decode c.code pc = .ok (.instanceof index, 3)) (hn : pc + 3 = n)
    (k : ∀ T', Stand p l e R s m args below meth c T' locs cells slots → T'.heap = h → Go p e below Nd Q T' (mkF m n Ls (.int 1 :: st))) : Go p e below Nd Q T (mkF m pc Ls (.ref a :: st)) := by
  subst hn
  obtain ⟨T1, X1, e1, st1⟩ := instY X hx hZ hown w eT F (g := mkF m pc Ls (.ref a :: st)) rfl rfl hd
  exact Go.stp st1 (k T1 X1 e1)
/-! calls by contract -/
variable {y z : MethodName} {bytes : ByteArray} {maxL : Nat} {ret : Option FieldType} {rm : Room} {Qc : Option Value → Heap → List Loc → Prop} {ps : List FieldType} {rt : Option FieldType}
/-- a callee's contract over the heap h, with these arguments -/
abbrev OMet (l : Launch) (Z : State) (y : MethodName) (bytes : ByteArray) (maxL : Nat) (ret : Option FieldType) (ws : List Cond) (rm : Room) (as' : Array Value) (h : Heap) (Qc : Option Value → Heap → List Loc → Prop) : Prop :=
  MetFree l y (head1 (Cond.code y bytes maxL ret :: ws) rm) (fun a U => a = as' ∧ Z.Warmed39 U.vm ∧ U.heap = h) (fun _ _ _ _ _ => True) (fun _ U o U' => ∃ v L, o = .returned v ∧ Qc v U'.heap L ∧ FrameEnd U o U' L rm.cells rm.slots)
theorem own_body {ws : List Cond} {as' : Array Value} (hpn : plainFor y = true) (hef : ∀ m, entryFrame m as' maxL = mkF m 0 Ls [])
    (H : ∀ (p : Program) (e : Env) (s : State) (m : MethodId) (below : List Frame) (meth : Method) (c : Code) (s₁ : State), Stand p l e rm s m as' below meth c s₁ [] 0 0 → p.tables.exec = Jvm.exec → c.code = bytes → c.maxLocals = maxL → s.vm.findClass y.cls = some m.cls → meth.name = y.name → meth.sig.returnType = ret → meth.locks = false → Z.Warmed39 s.vm → s₁.heap = h → Go p e below (Fe s rm.cells rm.slots) Qc s₁ (mkF m 0 Ls [])) :
    OMet l Z y bytes maxL ret ws rm as' h Qc := by
  refine MetFree.of_bodySF hpn hisR ?_
  intro p e s m args below meth c s₁ Bd hml0 hP hK
  obtain ⟨rfl, hZ, hh⟩ := hP
  obtain ⟨s₂, o, h1, h2, h3, h4⟩ := H p e s m below meth c s₁ (Stand.of_body Bd) Bd.exec Bd.bytes hml0 (findClass_of_methodNamed Bd.named) (name_of_methodNamed Bd.named Bd.method).1 Bd.returns (BodyLoose.notSynchronized Bd) hZ (by rw [← hh, Bd.state]; rfl)
  exact ⟨s₂, o, castTop (hef m) h1, h2, h3, h4⟩
theorem g_callS (X : Stand p l e R s m args below meth c T locs cells slots) (hx : p.tables.exec = Jvm.exec) (hZ : Z.Warmed39 s.vm) (hown : s.vm.findClass own = some m.cls) (eT : T.heap = h) (w1 : (Cond.methodLink own index y).before a0 Z = true) (w2 : (Cond.static y).before a0 Z = true) (w3 : (Cond.initialized y.cls).before a0 Z = true) (w4 : (Cond.code y bytes maxL ret).before a0 Z = true)
    (hy : y.cls ≠ "java/lang/invoke/MethodHandle" ∧ y.cls ≠ "java/lang/invoke/VarHandle") (as' : List Value) (hM : OMet l Z y bytes maxL ret [] rm as'.toArray h Qc) (hpd : parseMethodDescriptor y.desc = some ⟨ps, rt⟩) (hlen : as'.length = ps.length) (hd : decode c.code pc = .ok (.invokestatic index, 3)) (hn : pc + 3 = n) (hsize : Ls.size = c.maxLocals)
    (hf : rm.frames + 1 ≤ R.frames) (W : Nat) (hW : (st.map fun v => v.category).sum ≤ W) (hl : W + (maxL + 11) + rm.locals ≤ R.locals) (hc : cells + rm.cells ≤ R.cells) (hs : slots + rm.slots ≤ R.slots)
    (k : ∀ T' h' v L, Stand p l e R s m args below meth c T' (locs ++ L) (cells + rm.cells) (slots + rm.slots) → T'.heap = h' → Qc v h' L → Go p e below Nd Q T' (mkF m n Ls (v.toList ++ st))) : Go p e below Nd Q T (mkF m pc Ls (as'.reverse ++ st)) := by
  subst hn
  obtain ⟨v, _, ⟨T1, L1, k1, n1⟩, -, X1, ⟨L, hQ1, l1, y1, z1⟩, st1⟩ := Jvm.LawKit.callS X hx (y := y) hown (mvT hZ w1) (mvT hZ w2) (mvT hZ w3) (mvT hZ w4) hy (backOf (W := W) hM hZ w4 w3 hf hl) (g := mkF m pc Ls (as'.reverse ++ st)) rfl hsize (argsL := as') (rest := st) (lenOf hpd hlen) rfl (by show 2 * 0 + _ ≤ _; omega) hd (fun _ _ => ⟨rfl, eT, hc, hs⟩)
  dsimp only [Pt.U, Pt.locs, Pt.cells, Pt.slots] at X1 l1 y1 z1 st1 hQ1
  subst l1 y1 z1
  exact Go.stp st1 (k T1 _ v L X1 rfl hQ1)
/-- a callee that returns w and changes nothing -/
def Pu (w : Value) (h0 : Heap) (v : Option Value) (h : Heap) (L : List Loc) : Prop := v = some w ∧ L = [] ∧ h = h0
theorem g_callSP (X : Stand p l e R s m args below meth c T locs cells slots) (hx : p.tables.exec = Jvm.exec) (hZ : Z.Warmed39 s.vm) (hown : s.vm.findClass own = some m.cls) (eT : T.heap = h) (w1 : (Cond.methodLink own index y).before a0 Z = true) (w2 : (Cond.static y).before a0 Z = true) (w3 : (Cond.initialized y.cls).before a0 Z = true) (w4 : (Cond.code y bytes maxL ret).before a0 Z = true)
    (hy : y.cls ≠ "java/lang/invoke/MethodHandle" ∧ y.cls ≠ "java/lang/invoke/VarHandle") (as' : List Value) {w : Value} (hM : OMet l Z y bytes maxL ret [] rm as'.toArray h (Pu w h)) (hpd : parseMethodDescriptor y.desc = some ⟨ps, rt⟩) (hlen : as'.length = ps.length) (hd : decode c.code pc = .ok (.invokestatic index, 3)) (hn : pc + 3 = n) (hsize : Ls.size = c.maxLocals)
    (hf : rm.frames + 1 ≤ R.frames) (W : Nat) (hW : (st.map fun v => v.category).sum ≤ W) (hl : W + (maxL + 11) + rm.locals ≤ R.locals) (hc : cells + rm.cells ≤ R.cells) (hs : slots + rm.slots ≤ R.slots)
    (k : ∀ T', Stand p l e R s m args below meth c T' locs (cells + rm.cells) (slots + rm.slots) → T'.heap = h → Go p e below Nd Q T' (mkF m n Ls (w :: st))) : Go p e below Nd Q T (mkF m pc Ls (as'.reverse ++ st)) :=
  g_callS X hx hZ hown eT w1 w2 w3 w4 hy as' hM hpd hlen hd hn hsize hf W hW hl hc hs fun T' h' v L X' e' q => by
    obtain ⟨rfl, rfl, rfl⟩ := q
    rw [List.append_nil] at X'
    exact k T' X' e'
/-- a callee that returns nothing and changes nothing -/
def Pv (h0 : Heap) (v : Option Value) (h : Heap) (L : List Loc) : Prop := v = none ∧ L = [] ∧ h = h0
theorem g_callSV (X : Stand p l e R s m args below meth c T locs cells slots) (hx : p.tables.exec = Jvm.exec) (hZ : Z.Warmed39 s.vm) (hown : s.vm.findClass own = some m.cls) (eT : T.heap = h) (w1 : (Cond.methodLink own index y).before a0 Z = true) (w2 : (Cond.static y).before a0 Z = true) (w3 : (Cond.initialized y.cls).before a0 Z = true) (w4 : (Cond.code y bytes maxL ret).before a0 Z = true)
    (hy : y.cls ≠ "java/lang/invoke/MethodHandle" ∧ y.cls ≠ "java/lang/invoke/VarHandle") (as' : List Value) (hM : OMet l Z y bytes maxL ret [] rm as'.toArray h (Pv h)) (hpd : parseMethodDescriptor y.desc = some ⟨ps, rt⟩) (hlen : as'.length = ps.length) (hd : decode c.code pc = .ok (.invokestatic index, 3)) (hn : pc + 3 = n) (hsize : Ls.size = c.maxLocals)
    (hf : rm.frames + 1 ≤ R.frames) (W : Nat) (hW : (st.map fun v => v.category).sum ≤ W) (hl : W + (maxL + 11) + rm.locals ≤ R.locals) (hc : cells + rm.cells ≤ R.cells) (hs : slots + rm.slots ≤ R.slots)
    (k : ∀ T', Stand p l e R s m args below meth c T' locs (cells + rm.cells) (slots + rm.slots) → T'.heap = h → Go p e below Nd Q T' (mkF m n Ls st)) : Go p e below Nd Q T (mkF m pc Ls (as'.reverse ++ st)) :=
  g_callS X hx hZ hown eT w1 w2 w3 w4 hy as' hM hpd hlen hd hn hsize hf W hW hl hc hs fun T' h' v L X' e' q => by
    obtain ⟨rfl, rfl, rfl⟩ := q
    rw [List.append_nil] at X'
    exact k T' X' e'
theorem g_callI (X : Stand p l e R s m args below meth c T locs cells slots) (hx : p.tables.exec = Jvm.exec) (hZ : Z.Warmed39 s.vm) (hown : s.vm.findClass own = some m.cls) (eT : T.heap = h) (hy1 : y.name = "<init>") (w1 : (Cond.methodLink own index y).before a0 Z = true) (w2 : (Cond.instanceMethod y).before a0 Z = true) (w3 : (Cond.initialized y.cls).before a0 Z = true) (w4 : (Cond.code y bytes maxL none).before a0 Z = true)
    (hy : y.cls ≠ "java/lang/invoke/MethodHandle" ∧ y.cls ≠ "java/lang/invoke/VarHandle") (a : Nat) (as' : List Value) (hM : OMet l Z y bytes maxL none [] rm (.ref a :: as').toArray h Qc) (hpd : parseMethodDescriptor y.desc = some ⟨ps, rt⟩) (hlen : as'.length = ps.length) (hd : decode c.code pc = .ok (.invokespecial index, 3)) (hn : pc + 3 = n) (hsize : Ls.size = c.maxLocals)
    (hf : rm.frames + 1 ≤ R.frames) (W : Nat) (hW : (st.map fun v => v.category).sum ≤ W) (hl : W + (maxL + 11) + rm.locals ≤ R.locals) (hc : cells + rm.cells ≤ R.cells) (hs : slots + rm.slots ≤ R.slots)
    (k : ∀ T' h' v L, Stand p l e R s m args below meth c T' (locs ++ L) (cells + rm.cells) (slots + rm.slots) → T'.heap = h' → Qc v h' L → Go p e below Nd Q T' (mkF m n Ls (v.toList ++ st))) : Go p e below Nd Q T (mkF m pc Ls (as'.reverse ++ .ref a :: st)) := by
  subst hn
  obtain ⟨v, _, ⟨T1, L1, k1, n1⟩, -, X1, ⟨L, hQ1, l1, y1, z1⟩, st1⟩ := X.specialBack hx (y := y) hy1 hown (mvT hZ w1) (mvT hZ w2) (mvT hZ w4) hy (backOf (W := W) hM hZ w4 w3 hf hl) (g := mkF m pc Ls (as'.reverse ++ .ref a :: st)) rfl hsize (Steps.refl _) (a := a) (argsL := as') (rest := st) (lenOf hpd hlen) rfl (by show 2 * 0 + _ ≤ _; omega) hd (fun _ _ => ⟨rfl, eT, hc, hs⟩)
  dsimp only [Pt.U, Pt.locs, Pt.cells, Pt.slots] at X1 l1 y1 z1 st1 hQ1
  subst l1 y1 z1
  exact Go.tr st1 (k T1 _ v L X1 rfl hQ1)
theorem g_callV (X : Stand p l e R s m args below meth c T locs cells slots) (hx : p.tables.exec = Jvm.exec) (hZ : Z.Warmed39 s.vm) (hown : s.vm.findClass own = some m.cls) (eT : T.heap = h) {K : String} (w1 : (Cond.methodLink own index y).before a0 Z = true) (w2 : (Cond.declares y).before a0 Z = true) (hnf : NotFace s y) (w5 : (Cond.selects K y z).before a0 Z = true) (w6 : (Cond.instanceMethod z).before a0 Z = true) (w3 : (Cond.initialized z.cls).before a0 Z = true) (w4 : (Cond.code z bytes maxL ret).before a0 Z = true)
    (hy : y.cls ≠ "java/lang/invoke/MethodHandle" ∧ y.cls ≠ "java/lang/invoke/VarHandle") (a : Nat) (E : Exa Z h a K) (as' : List Value) (hM : OMet l Z z bytes maxL ret [] rm (.ref a :: as').toArray h Qc) (hpd : parseMethodDescriptor y.desc = some ⟨ps, rt⟩) (hlen : as'.length = ps.length) (hd : decode c.code pc = .ok (.invokevirtual index, 3)) (hn : pc + 3 = n) (hsize : Ls.size = c.maxLocals)
    (hf : rm.frames + 1 ≤ R.frames) (W : Nat) (hW : (st.map fun v => v.category).sum ≤ W) (hl : W + (maxL + 11) + rm.locals ≤ R.locals) (hc : cells + rm.cells ≤ R.cells) (hs : slots + rm.slots ≤ R.slots)
    (k : ∀ T' h' v L, Stand p l e R s m args below meth c T' (locs ++ L) (cells + rm.cells) (slots + rm.slots) → T'.heap = h' → Qc v h' L → Go p e below Nd Q T' (mkF m n Ls (v.toList ++ st))) : Go p e below Nd Q T (mkF m pc Ls (as'.reverse ++ .ref a :: st)) := by
  subst hn
  obtain ⟨cq, kq, qa, qb, qc⟩ := isOf hZ eT E
  obtain ⟨v, _, ⟨T1, L1, k1, n1⟩, -, X1, ⟨L, hQ1, l1, y1, z1⟩, st1⟩ := X.virtualBack hx (y := y) (z := z) hown (mvT hZ w1) (mvT hZ w2) hnf (mvT hZ w5) (mvT hZ w6) hy (backOf (W := W) hM hZ w4 w3 hf hl) qa qc (g := mkF m pc Ls (as'.reverse ++ .ref a :: st)) rfl hsize (Steps.refl _) (argsL := as') (rest := st) (lenOf hpd hlen) rfl (by show 2 * 0 + _ ≤ _; omega) hd (fun _ _ => ⟨rfl, eT, hc, hs⟩)
  dsimp only [Pt.U, Pt.locs, Pt.cells, Pt.slots] at X1 l1 y1 z1 st1 hQ1
  subst l1 y1 z1
  exact Go.tr st1 (k T1 _ v L X1 rfl hQ1)
theorem g_callVP (X : Stand p l e R s m args below meth c T locs cells slots) (hx : p.tables.exec = Jvm.exec) (hZ : Z.Warmed39 s.vm) (hown : s.vm.findClass own = some m.cls) (eT : T.heap = h) {K : String} (w1 : (Cond.methodLink own index y).before a0 Z = true) (w2 : (Cond.declares y).before a0 Z = true) (hnf : NotFace s y) (w5 : (Cond.selects K y z).before a0 Z = true) (w6 : (Cond.instanceMethod z).before a0 Z = true) (w3 : (Cond.initialized z.cls).before a0 Z = true) (w4 : (Cond.code z bytes maxL ret).before a0 Z = true)
    (hy : y.cls ≠ "java/lang/invoke/MethodHandle" ∧ y.cls ≠ "java/lang/invoke/VarHandle") (a : Nat) (E : Exa Z h a K) (as' : List Value) {w : Value} (hM : OMet l Z z bytes maxL ret [] rm (.ref a :: as').toArray h (Pu w h)) (hpd : parseMethodDescriptor y.desc = some ⟨ps, rt⟩) (hlen : as'.length = ps.length) (hd : decode c.code pc = .ok (.invokevirtual index, 3)) (hn : pc + 3 = n) (hsize : Ls.size = c.maxLocals)
    (hf : rm.frames + 1 ≤ R.frames) (W : Nat) (hW : (st.map fun v => v.category).sum ≤ W) (hl : W + (maxL + 11) + rm.locals ≤ R.locals) (hc : cells + rm.cells ≤ R.cells) (hs : slots + rm.slots ≤ R.slots)
    (k : ∀ T', Stand p l e R s m args below meth c T' locs (cells + rm.cells) (slots + rm.slots) → T'.heap = h → Go p e below Nd Q T' (mkF m n Ls (w :: st))) : Go p e below Nd Q T (mkF m pc Ls (as'.reverse ++ .ref a :: st)) :=
  g_callV X hx hZ hown eT w1 w2 hnf w5 w6 w3 w4 hy a E as' hM hpd hlen hd hn hsize hf W hW hl hc hs fun T' h' v L X' e' q => by
    obtain ⟨rfl, rfl, rfl⟩ := q
    rw [List.append_nil] at X'
    exact k T' X' e'
theorem own_pad {C' S' : Nat} (X : Stand p l e R s m args below meth c T locs cells slots) (h1 : cells ≤ C') (h2 : slots ≤ S') : Stand p l e R s m args below meth c T locs C' S' :=
  ⟨X.admits, X.cas, X.clock, X.frames, X.room, X.hears, X.method, X.code, X.here, X.tail, X.warmed, X.limits, X.bytes, X.same.mono h1 h2⟩
/-- a private method, called by invokevirtual; wu: any method of the same class that its objects select (so the class is no interface) -/
theorem g_callP (X : Stand p l e R s m args below meth c T locs cells slots) (hx : p.tables.exec = Jvm.exec) (hZ : Z.Warmed39 s.vm) (hown : s.vm.findClass own = some m.cls) (eT : T.heap = h) {u : MethodName} (hu : u.cls = y.cls) (w1 : (Cond.methodLink own index y).before a0 Z = true) (w2 : (Cond.instanceMethod y).before a0 Z = true) (wp : (Cond.privateMethod y).before a0 Z = true) (wu : (Cond.selects u.cls u u).before a0 Z = true) (w3 : (Cond.initialized y.cls).before a0 Z = true) (w4 : (Cond.code y bytes maxL ret).before a0 Z = true)
    (hy : y.cls ≠ "java/lang/invoke/MethodHandle" ∧ y.cls ≠ "java/lang/invoke/VarHandle") (a : Nat) {K : String} (E : Exa Z h a K) (as' : List Value) (hM : OMet l Z y bytes maxL ret [] rm (.ref a :: as').toArray h Qc) (hpd : parseMethodDescriptor y.desc = some ⟨ps, rt⟩) (hlen : as'.length = ps.length) (hd : decode c.code pc = .ok (.invokevirtual index, 3)) (hn : pc + 3 = n) (hsize : Ls.size = c.maxLocals)
    (hf : rm.frames + 1 ≤ R.frames) (W : Nat) (hW : (st.map fun v => v.category).sum ≤ W) (hl : W + (maxL + 11) + rm.locals ≤ R.locals) (hc : cells + rm.cells ≤ R.cells) (hs : slots + rm.slots ≤ R.slots)
    (k : ∀ T' h' v L, Stand p l e R s m args below meth c T' (locs ++ L) (cells + rm.cells) (slots + rm.slots) → T'.heap = h' → Qc v h' L → Go p e below Nd Q T' (mkF m n Ls (v.toList ++ st))) : Go p e below Nd Q T (mkF m pc Ls (as'.reverse ++ .ref a :: st)) := by
  subst hn
  have hpr : s.PrivateAt y := Cond.privateMethod_at (mvP hZ wp (args := args))
  have hin : (Cond.instanceMethod y).before args s = true := mvT hZ w2
  have hus : (Cond.selects u.cls u u).before args s = true := mvT hZ wu
  obtain ⟨cu, ru, mu, u1, -, u3, -, ku, u5, u6⟩ := Cond.selects_spec hus
  have hcu : s.vm.findClass y.cls = some mu.cls := by rw [← hu]; exact findClass_of_methodNamed u3
  have hsel : (Cond.selects y.cls y y).before args s = true := selects_self_of_private hcu u5 u6 hpr hin hy
  obtain ⟨cell, hcell, hob⟩ := E.cell
  obtain ⟨v, _, ⟨T1, L1, k1, n1⟩, -, X1, ⟨L, hQ1, l1, y1, z1⟩, st1⟩ := X.privateBack hx (y := y) hown (mvT hZ w1) hin hsel hpr (mvT hZ w4) hy (backOf (W := W) hM hZ w4 w3 hf hl) (g := mkF m pc Ls (as'.reverse ++ .ref a :: st)) rfl hsize (Steps.refl _) (a := a) (cell := cell) (by rw [eT]; exact hcell) hob (argsL := as') (rest := st) (lenOf hpd hlen) rfl (by show 2 * 0 + _ ≤ _; omega) hd (fun _ _ => ⟨rfl, eT, hc, hs⟩)
  dsimp only [Pt.U, Pt.locs, Pt.cells, Pt.slots] at X1 l1 y1 z1 st1 hQ1
  subst l1 y1 z1
  exact Go.tr st1 (k T1 _ v L X1 rfl hQ1)
/-! arrays: n places, place j holds f j -/
def Av (Z : State) (h : Heap) (a : Nat) (ty : FieldType) (n : Nat) (f : Nat → Value) : Prop := ∃ cl : Cell, Arr Z h a cl ty ∧ cl.slots.size = n ∧ n < 2 ^ 31 ∧ ∀ j, j < n → cl.slots[j]? = some (f j)
variable {h' : Heap} {a b : Nat} {ty : FieldType} {sz : Nat} {f : Nat → Value} {sl : Nat} {v : Value} {ws' : List Nat}
theorem own_elt {K : String} (F : Exa Z h a K) : a < h.size := F.lt
theorem Av.lt (F : Av Z h a ty sz f) : a < h.size := by obtain ⟨c, A, -⟩ := F; exact A.lt
theorem Av.ext (F : Av Z h a ty sz f) (E : Ext h h') : Av Z h' a ty sz f := by obtain ⟨c, A, r⟩ := F; exact ⟨c, A.ext E, r⟩
theorem Av.other (F : Av Z h b ty sz f) (W : Wr h h' a sl v) (q : b ≠ a) : Av Z h' b ty sz f := by obtain ⟨c, A, r⟩ := F; exact ⟨c, A.other W q, r⟩
theorem Av.keep (F : Av Z h a ty sz f) (K : Keep h h' ws') (q : a ∉ ws') : Av Z h' a ty sz f := by obtain ⟨c, A, r⟩ := F; exact ⟨c, ⟨K.2.1 a c A.1 q, A.2⟩, r⟩
theorem Av.bnd (F : Av Z h a ty sz f) : sz < 2 ^ 31 := by obtain ⟨_, _, _, b, _⟩ := F; exact b
theorem Av.congr {f' : Nat → Value} (F : Av Z h a ty sz f) (q : ∀ j, j < sz → f j = f' j) : Av Z h a ty sz f' := by
  obtain ⟨c, A, S, b, H⟩ := F; exact ⟨c, A, S, b, fun j hj => by rw [H j hj, q j hj]⟩
theorem own_in {c : Cell} {k n : Nat} {j : Int32} (hj : j = Int32.ofNat k) (hs : c.slots.size = n) (hk : k < n) (hn : n < 2 ^ 31) : ¬ (j < 0 ∨ c.slots.size ≤ j.toNatClampNeg) ∧ j.toNatClampNeg = k := by
  subst hj hs
  refine ⟨idx_in hk hn, ?_⟩
  have := len_toInt (n := k) (Nat.lt_trans hk hn)
  show (Nat.toInt32 k).toNatClampNeg = k
  simp only [Int32.toNatClampNeg, this]; rfl
theorem own_inc (i : Nat) : Int32.ofNat i + Int32.ofInt 1 = Int32.ofNat (i + 1) := (Int32.ofNat_add i 1).symm
theorem own_le {i n : Nat} (hi : i < 2 ^ 31) (hn : n < 2 ^ 31) : Int32.ofNat n ≤ Int32.ofNat i ↔ n ≤ i := by
  rw [Int32.le_iff_toInt_le, Int32.toInt_ofNat_small hi, Int32.toInt_ofNat_small hn]; omega
theorem own_idx {i : Int32} {j n : Nat} (hj : i = Int32.ofNat j) (h1 : j < n) (h2 : n < 2 ^ 31) : ¬ i < 0 ∧ i < Int32.ofNat n := by
  subst hj
  rw [Int32.lt_iff_toInt_lt, Int32.lt_iff_toInt_lt, Int32.toInt_ofNat_small (by omega), Int32.toInt_ofNat_small h2]
  constructor
  · show ¬ (j : Int) < 0; omega
  · omega
theorem Av.set (F : Av Z h a ty sz f) {k : Nat} (W : Wr h h' a k v) (hk : k < sz) : Av Z h' a ty sz (fun i => if i = k then v else f i) := by
  obtain ⟨c, A, S, b, H⟩ := F
  refine ⟨_, A.same W, by rw [sz_set]; exact S, b, fun j hj => ?_⟩
  simp only [Cell.setSlot]
  by_cases q : j = k
  · subst q; simp [S, hj]
  · rw [Array.getElem?_setIfInBounds_ne (Ne.symm q), H j hj, if_neg q]
theorem Av.new {cA : ClassId} {N : Int32} (A : Arr Z h a (newA cA ty N) ty) (hN : N = Int32.ofNat sz) (hb : sz < 2 ^ 31) : Av Z h a ty sz (fun _ => defaultValue ty) := by
  have e : N.toNatClampNeg = sz := by
    subst hN; have := len_toInt (n := sz) hb; show (Nat.toInt32 sz).toNatClampNeg = sz; simp only [Int32.toNatClampNeg, this]; rfl
  exact ⟨_, A, by rw [sz_new, e], hb, fun j hj => by simp [newA, e, hj]⟩
theorem g_len (X : Stand p l e R s m args below meth c T locs cells slots) (hx : p.tables.exec = Jvm.exec) (hZ : Z.Warmed39 s.vm) (eT : T.heap = h) (F : Av Z h a ty sz f) (hd : decode c.code pc = .ok (.arraylength, 1)) (hn : pc + 1 = n) (k : Go p e below Nd Q T (mkF m n Ls (.int (Int32.ofNat sz) :: st))) : Go p e below Nd Q T (mkF m pc Ls (.ref a :: st)) := by
  subst hn
  obtain ⟨cl, A, S, b, H⟩ := F
  refine Go.stp (fun t q => X.arraylength hx (cell := cl) (by rw [eT]; exact A.1) (State.isArrayOf_alike hZ.alike A.2.1) (g := mkF m pc Ls (.ref a :: st)) rfl rfl hd t q) ?_
  rw [S]; exact k
theorem g_iaload (X : Stand p l e R s m args below meth c T locs cells slots) (hx : p.tables.exec = Jvm.exec) (hZ : Z.Warmed39 s.vm) (eT : T.heap = h) (F : Av Z h a .int sz f) (i : Nat) {j : Int32} (hj : j = Int32.ofNat i) (hi : i < sz) (v : Value) (hv : f i = v) (hd : decode c.code pc = .ok (.iaload, 1)) (hn : pc + 1 = n) (k : Go p e below Nd Q T (mkF m n Ls (v :: st))) : Go p e below Nd Q T (mkF m pc Ls (.int j :: .ref a :: st)) := by
  subst hn hv
  obtain ⟨cl, A, S, b, H⟩ := F
  obtain ⟨q1, q2⟩ := own_in hj S hi b
  exact Go.stp (fun t q => X.iaload hx (j := j) (v := f i) (by rw [eT]; exact A.1) (State.isArrayOf_alike hZ.alike A.2.1) A.2.2 q1 (by rw [q2]; exact H i hi) (g := mkF m pc Ls (.int j :: .ref a :: st)) rfl rfl hd t q) k
theorem g_caload (X : Stand p l e R s m args below meth c T locs cells slots) (hx : p.tables.exec = Jvm.exec) (hZ : Z.Warmed39 s.vm) (eT : T.heap = h) (F : Av Z h a .char sz f) (i : Nat) {j : Int32} (hj : j = Int32.ofNat i) (hi : i < sz) (v : Value) (hv : f i = v) (hd : decode c.code pc = .ok (.caload, 1)) (hn : pc + 1 = n) (k : Go p e below Nd Q T (mkF m n Ls (v :: st))) : Go p e below Nd Q T (mkF m pc Ls (.int j :: .ref a :: st)) := by
  subst hn hv
  obtain ⟨cl, A, S, b, H⟩ := F
  obtain ⟨q1, q2⟩ := own_in hj S hi b
  exact Go.stp (fun t q => X.caload hx (j := j) (v := f i) (by rw [eT]; exact A.1) (State.isArrayOf_alike hZ.alike A.2.1) A.2.2 q1 (by rw [q2]; exact H i hi) (g := mkF m pc Ls (.int j :: .ref a :: st)) rfl rfl hd t q) k
theorem g_baload (X : Stand p l e R s m args below meth c T locs cells slots) (hx : p.tables.exec = Jvm.exec) (hZ : Z.Warmed39 s.vm) (eT : T.heap = h) (F : Av Z h a .byte sz f) (i : Nat) {j : Int32} (hj : j = Int32.ofNat i) (hi : i < sz) (v : Value) (hv : f i = v) (hd : decode c.code pc = .ok (.baload, 1)) (hn : pc + 1 = n) (k : Go p e below Nd Q T (mkF m n Ls (v :: st))) : Go p e below Nd Q T (mkF m pc Ls (.int j :: .ref a :: st)) := by
  subst hn hv
  obtain ⟨cl, A, S, b, H⟩ := F
  obtain ⟨q1, q2⟩ := own_in hj S hi b
  exact Go.stp (fun t q => X.baloadBytes hx (j := j) (v := f i) (by rw [eT]; exact A.1) (State.isArrayOf_alike hZ.alike A.2.1) A.2.2 q1 (by rw [q2]; exact H i hi) (g := mkF m pc Ls (.int j :: .ref a :: st)) rfl rfl hd t q) k
theorem g_aaload (X : Stand p l e R s m args below meth c T locs cells slots) (hx : p.tables.exec = Jvm.exec) (hZ : Z.Warmed39 s.vm) (eT : T.heap = h) (F : Av Z h a ty sz f) (hty : ty.isReference = true) (i : Nat) {j : Int32} (hj : j = Int32.ofNat i) (hi : i < sz) (v : Value) (hv : f i = v) (hd : decode c.code pc = .ok (.aaload, 1)) (hn : pc + 1 = n) (k : Go p e below Nd Q T (mkF m n Ls (v :: st))) : Go p e below Nd Q T (mkF m pc Ls (.int j :: .ref a :: st)) := by
  subst hn hv
  obtain ⟨cl, A, S, b, H⟩ := F
  obtain ⟨q1, q2⟩ := own_in hj S hi b
  exact Go.stp (fun t q => X.aaload hx (j := j) (v := f i) (by rw [eT]; exact A.1) (State.isArrayOf_alike hZ.alike A.2.1) hty A.2.2 q1 (by rw [q2]; exact H i hi) (g := mkF m pc Ls (.int j :: .ref a :: st)) rfl rfl hd t q) k
theorem g_iastore (X : Stand p l e R s m args below meth c T locs cells slots) (hx : p.tables.exec = Jvm.exec) (hZ : Z.Warmed39 s.vm) (eT : T.heap = h) (F : Av Z h a .int sz f) (i : Nat) {j x : Int32} (hj : j = Int32.ofNat i) (hi : i < sz) (hd : decode c.code pc = .ok (.iastore, 1)) (hn : pc + 1 = n)
    (k : ∀ T' h', Stand p l e R s m args below meth c T' (locs ++ [⟨a, i⟩]) cells slots → T'.heap = h' → Wr h h' a i (.int x) → Av Z h' a .int sz (fun w => if w = i then (.int x) else f w) → Go p e below Nd Q T' (mkF m n Ls st)) : Go p e below Nd Q T (mkF m pc Ls (.int x :: .int j :: .ref a :: st)) := by
  subst hn
  have F0 := F
  obtain ⟨cl, A, S, b, H⟩ := F
  obtain ⟨q1, q2⟩ := own_in hj S hi b
  obtain ⟨T1, h1, X1, e1, W1, st1⟩ := stI X hx hZ eT A (j := j) q1 (g := mkF m pc Ls (.int x :: .int j :: .ref a :: st)) rfl rfl hd
  rw [q2] at X1 W1
  exact Go.stp st1 (k T1 h1 X1 e1 W1 (F0.set W1 hi))
theorem g_castore (X : Stand p l e R s m args below meth c T locs cells slots) (hx : p.tables.exec = Jvm.exec) (hZ : Z.Warmed39 s.vm) (eT : T.heap = h) (F : Av Z h a .char sz f) (i : Nat) {j x : Int32} (hj : j = Int32.ofNat i) (hi : i < sz) (hd : decode c.code pc = .ok (.castore, 1)) (hn : pc + 1 = n)
    (k : ∀ T' h', Stand p l e R s m args below meth c T' (locs ++ [⟨a, i⟩]) cells slots → T'.heap = h' → Wr h h' a i (.int (nar .char x)) → Av Z h' a .char sz (fun w => if w = i then (.int (nar .char x)) else f w) → Go p e below Nd Q T' (mkF m n Ls st)) : Go p e below Nd Q T (mkF m pc Ls (.int x :: .int j :: .ref a :: st)) := by
  subst hn
  have F0 := F
  obtain ⟨cl, A, S, b, H⟩ := F
  obtain ⟨q1, q2⟩ := own_in hj S hi b
  obtain ⟨T1, h1, X1, e1, W1, st1⟩ := stC X hx hZ eT A (j := j) q1 (g := mkF m pc Ls (.int x :: .int j :: .ref a :: st)) rfl rfl hd
  rw [q2] at X1 W1
  exact Go.stp st1 (k T1 h1 X1 e1 W1 (F0.set W1 hi))
theorem g_bastore (X : Stand p l e R s m args below meth c T locs cells slots) (hx : p.tables.exec = Jvm.exec) (hZ : Z.Warmed39 s.vm) (eT : T.heap = h) (F : Av Z h a .byte sz f) (i : Nat) {j x : Int32} (hj : j = Int32.ofNat i) (hi : i < sz) (hd : decode c.code pc = .ok (.bastore, 1)) (hn : pc + 1 = n)
    (k : ∀ T' h', Stand p l e R s m args below meth c T' (locs ++ [⟨a, i⟩]) cells slots → T'.heap = h' → Wr h h' a i (.int (nar .byte x)) → Av Z h' a .byte sz (fun w => if w = i then (.int (nar .byte x)) else f w) → Go p e below Nd Q T' (mkF m n Ls st)) : Go p e below Nd Q T (mkF m pc Ls (.int x :: .int j :: .ref a :: st)) := by
  subst hn
  have F0 := F
  obtain ⟨cl, A, S, b, H⟩ := F
  obtain ⟨q1, q2⟩ := own_in hj S hi b
  obtain ⟨T1, h1, X1, e1, W1, st1⟩ := stB X hx hZ eT A (j := j) q1 (g := mkF m pc Ls (.int x :: .int j :: .ref a :: st)) rfl rfl hd
  rw [q2] at X1 W1
  exact Go.stp st1 (k T1 h1 X1 e1 W1 (F0.set W1 hi))
theorem g_aastore (X : Stand p l e R s m args below meth c T locs cells slots) (hx : p.tables.exec = Jvm.exec) (hZ : Z.Warmed39 s.vm) (eT : T.heap = h) (F : Av Z h a ty sz f) (hty : ty.isReference = true) (i : Nat) {j : Int32} (hj : j = Int32.ofNat i) (hi : i < sz) (hS : Sto Z h a v) (hd : decode c.code pc = .ok (.aastore, 1)) (hn : pc + 1 = n)
    (k : ∀ T' h', Stand p l e R s m args below meth c T' (locs ++ [⟨a, i⟩]) cells slots → T'.heap = h' → Wr h h' a i v → Av Z h' a ty sz (fun w => if w = i then v else f w) → Go p e below Nd Q T' (mkF m n Ls st)) : Go p e below Nd Q T (mkF m pc Ls (v :: .int j :: .ref a :: st)) := by
  subst hn
  have F0 := F
  obtain ⟨cl, A, S, b, H⟩ := F
  obtain ⟨q1, q2⟩ := own_in hj S hi b
  obtain ⟨T1, h1, X1, e1, W1, st1⟩ := stR X hx hZ eT A (j := j) q1 hty hS (g := mkF m pc Ls (v :: .int j :: .ref a :: st)) rfl rfl hd
  rw [q2] at X1 W1
  exact Go.stp st1 (k T1 h1 X1 e1 W1 (F0.set W1 hi))
theorem g_newarray (X : Stand p l e R s m args below meth c T locs cells slots) (hx : p.tables.exec = Jvm.exec) (hZ : Z.Warmed39 s.vm) {aty : ArrayType} (ty : FieldType) (hty : newarray.typeOf aty = ty) (w : (Cond.arrayClass ty).before a0 Z = true) (eT : T.heap = h) {N : Int32} (sz : Nat) (hN : N = Int32.ofNat sz) (cap : Nat) (hcap : sz ≤ cap) (hb : cap * 8 ≤ 536870912) (hc : cells + 1 ≤ R.cells) (hl : slots + cap ≤ R.slots) (hd : decode c.code pc = .ok (.newarray aty, 2)) (hn : pc + 2 = n)
    (k : ∀ T' h' a, Stand p l e R s m args below meth c T' locs (cells + 1) (slots + cap) → T'.heap = h' → a = h.size → Ext h h' → Av Z h' a ty sz (fun _ => defaultValue ty) → Go p e below Nd Q T' (mkF m n Ls (.ref a :: st))) : Go p e below Nd Q T (mkF m pc Ls (.int N :: st)) := by
  subst hn hty
  have hb' : sz < 2 ^ 31 := by omega
  have e0 := len_toInt (n := sz) hb'
  have e : N.toNatClampNeg = sz := by subst hN; show (Nat.toInt32 sz).toNatClampNeg = sz; simp only [Int32.toNatClampNeg, e0]; rfl
  have hneg : ¬ N < 0 := by subst hN; rw [Int32.lt_iff_toInt_lt]; show ¬ (Nat.toInt32 sz).toInt < 0; rw [e0]; omega
  obtain ⟨T1, h1, cA, X1, e1, E1, A1, st1⟩ := newP X hx hZ w eT (g := mkF m pc Ls (.int N :: st)) rfl hd rfl hneg (cap := cap) (by rw [e]; exact hcap) hb hc hl
  exact Go.stp st1 (k T1 h1 h.size X1 e1 rfl E1 (Av.new A1 hN hb'))
theorem g_anewarray (X : Stand p l e R s m args below meth c T locs cells slots) (hx : p.tables.exec = Jvm.exec) (hZ : Z.Warmed39 s.vm) {K : String} (hown : s.vm.findClass own = some m.cls) (w1 : (Cond.classLink own index K).before a0 Z = true) (w2 : (Cond.arrayOver (.object K)).before a0 Z = true) (eT : T.heap = h) {N : Int32} (sz : Nat) (hN : N = Int32.ofNat sz) (cap : Nat) (hcap : sz ≤ cap) (hb : cap * 8 ≤ 536870912) (hc : cells + 1 ≤ R.cells) (hl : slots + cap ≤ R.slots) (hd : decode c.code pc = .ok (.anewarray index, 3)) (hn : pc + 3 = n)
    (k : ∀ T' h' a, Stand p l e R s m args below meth c T' locs (cells + 1) (slots + cap) → T'.heap = h' → a = h.size → Ext h h' → Av Z h' a (.object K) sz (fun _ => .null) → (∃ cl : Cell, h'[a]? = some cl ∧ Ovr Z cl.cls K) → Go p e below Nd Q T' (mkF m n Ls (.ref a :: st))) : Go p e below Nd Q T (mkF m pc Ls (.int N :: st)) := by
  subst hn
  have hb' : sz < 2 ^ 31 := by omega
  have e0 := len_toInt (n := sz) hb'
  have e : N.toNatClampNeg = sz := by subst hN; show (Nat.toInt32 sz).toNatClampNeg = sz; simp only [Int32.toNatClampNeg, e0]; rfl
  have hneg : ¬ N < 0 := by subst hN; rw [Int32.lt_iff_toInt_lt]; show ¬ (Nat.toInt32 sz).toInt < 0; rw [e0]; omega
  obtain ⟨T1, h1, cA, X1, e1, E1, A1, O1, st1⟩ := newR X hx hZ hown w1 w2 eT (g := mkF m pc Ls (.int N :: st)) rfl hd rfl hneg (cap := cap) (by rw [e]; exact hcap) hb hc hl
  exact Go.stp st1 (k T1 h1 h.size X1 e1 rfl E1 (Av.new A1 hN hb') ⟨_, A1.1, O1⟩)
theorem own_arv {f : Nat → Value} {sz : Nat} (F : Av Z h a ty sz f) (hf : ∀ j, j < sz → fits ty (f j) = true) : ∃ k, Arv Z h a k ty (Int32.ofNat sz) ((List.range sz).map f) .null := by
  obtain ⟨cl, A, S, b, H⟩ := F
  have e0 := len_toInt (n := sz) b
  have g : ∀ j, j < sz → ((List.range sz).map f).getD j .null = f j := fun j hj => by simp [List.getD_eq_getElem?_getD, hj]
  refine ⟨cl.cls, cl, A, rfl, ?_, ?_, fun j hj => ?_, fun j hj => ?_⟩
  · rw [S]; show sz = (Nat.toInt32 sz).toNatClampNeg; simp only [Int32.toNatClampNeg, e0]; rfl
  · rw [Int32.lt_iff_toInt_lt]; show ¬ (Nat.toInt32 sz).toInt < 0; rw [e0]; omega
  · rw [S] at hj; rw [g j hj]; exact H j hj
  · rw [S] at hj; rw [g j hj]; exact hf j hj
theorem own_stoL : ∀ (us : List Value), (∀ u ∈ us, Sto Z h a u) → StoL Z h a us
  | [], _ => trivial
  | u :: r, q => ⟨q u (by simp), own_stoL r (fun x hx => q x (by simp [hx]))⟩
theorem own_nat {k : Nat} (hk : k < 2 ^ 31) : (Int32.ofNat k).toNatClampNeg = k ∧ ¬ Int32.ofNat k < 0 := by
  have e0 := len_toInt (n := k) hk
  constructor
  · show (Nat.toInt32 k).toNatClampNeg = k; simp only [Int32.toNatClampNeg, e0]; rfl
  · rw [Int32.lt_iff_toInt_lt]; show ¬ (Nat.toInt32 k).toInt < 0; rw [e0]; omega
/-- System.arraycopy within bounds, what is copied fitting -/
theorem g_acopy (X : Stand p l e R s m args below meth c T locs cells slots) (hx : p.tables.exec = Jvm.exec) (hZ : Z.Warmed39 s.vm) (hown : s.vm.findClass own = some m.cls) (w1 : (Cond.methodLink own index ⟨"java/lang/System", "arraycopy", "(Ljava/lang/Object;ILjava/lang/Object;II)V"⟩).before a0 Z = true) (w2 : (Cond.native ⟨"java/lang/System", "arraycopy", "(Ljava/lang/Object;ILjava/lang/Object;II)V"⟩).before a0 Z = true) (w3 : (Cond.static ⟨"java/lang/System", "arraycopy", "(Ljava/lang/Object;ILjava/lang/Object;II)V"⟩).before a0 Z = true) (w4 : (Cond.initialized "java/lang/System").before a0 Z = true) (eT : T.heap = h)
    {f' : Nat → Value} {sz' : Nat} (A : Av Z h a ty sz f) (B : Av Z h b ty sz' f') (hfA : ∀ j, j < sz → fits ty (f j) = true) (hfB : ∀ j, j < sz' → fits ty (f' j) = true) (sp dp nn : Nat) (hty : refKind ty = false ∨ (refKind ty = true ∧ ∀ i, i < nn → Sto Z h b (f (sp + i)))) (h4 : sp + nn ≤ sz) (h5 : dp + nn ≤ sz')
    {vs vd vn : Int32} (hvs : vs = Int32.ofNat sp) (hvd : vd = Int32.ofNat dp) (hvn : vn = Int32.ofNat nn) {n0 : Nat} (N : Fr n0 locs) (ge : n0 ≤ b) (hd : decode c.code pc = .ok (.invokestatic index, 3)) (hn : pc + 3 = n) (hsize : Ls.size = c.maxLocals) (hf : 1 ≤ R.frames) (W : Nat) (hW : (st.map fun v => v.category).sum ≤ W) (hlo : W + (nativeFrameWords "java/lang/System" "arraycopy" 5 + 11) ≤ R.locals)
    (k : ∀ T' h' L, Stand p l e R s m args below meth c T' L cells slots → T'.heap = h' → Fr n0 L → Keep h h' [b] → Av Z h' b ty sz' (fun j => if dp ≤ j ∧ j < dp + nn then f (sp + (j - dp)) else f' j) → Go p e below Nd Q T' (mkF m n Ls st)) : Go p e below Nd Q T (mkF m pc Ls (.int vn :: .int vd :: .ref b :: .int vs :: .ref a :: st)) := by
  subst hn hvs hvd hvn
  have bA := A.bnd
  have bB := B.bnd
  obtain ⟨kA, VA⟩ := own_arv A hfA
  obtain ⟨kB, VB⟩ := own_arv B hfB
  obtain ⟨s1, s2⟩ := own_nat (k := sp) (by omega)
  obtain ⟨d1, d2⟩ := own_nat (k := dp) (by omega)
  obtain ⟨l1, l2⟩ := own_nat (k := nn) (by omega)
  obtain ⟨zA, -⟩ := own_nat (k := sz) bA
  obtain ⟨zB, -⟩ := own_nat (k := sz') bB
  have hus : (List.range nn).map (fun i => f (sp + i)) = (List.range (Int32.ofNat nn).toNatClampNeg).map fun i => ((List.range sz).map f).getD ((Int32.ofNat sp).toNatClampNeg + i) .null := by
    rw [l1, s1]
    apply List.map_congr_left
    intro i hi
    have := List.mem_range.mp hi
    simp [List.getD_eq_getElem?_getD, show sp + i < sz by omega]
  obtain ⟨T1, h1, L1, X1, e1, N1, K1, V1, st1⟩ := cpA X hx hZ hown w1 w2 w3 w4 eT (us := (List.range nn).map (fun i => f (sp + i))) VA VB (by
      rcases hty with q | ⟨q1, q2⟩
      · exact Or.inl ⟨rfl, q⟩
      · refine Or.inr ⟨q1, q1, own_stoL _ (fun u hu => ?_)⟩
        obtain ⟨i, hi, rfl⟩ := List.mem_map.mp hu
        exact q2 i (List.mem_range.mp hi)) s2 d2 l2 (by rw [s1, l1, zA]; exact h4) (by rw [d1, l1, zB]; exact h5) hus (by rw [d1, l1]; simpa using h5) N ge (g := mkF m pc Ls (.int (Int32.ofNat nn) :: .int (Int32.ofNat dp) :: .ref b :: .int (Int32.ofNat sp) :: .ref a :: st)) rfl hsize rfl hd hf (W := W) (by show 2 * 0 + _ ≤ _; omega) hlo
  refine Go.stp st1 (k T1 h1 L1 X1 e1 N1 K1 ?_)
  obtain ⟨cl, A1, -, S1, -, H1, -⟩ := V1
  rw [zB] at S1
  refine ⟨cl, A1, S1, bB, fun j hj => ?_⟩
  rw [H1 j (by rw [S1]; exact hj), d1, l1]
  congr 1
  simp only [List.getD_eq_getElem?_getD]
  by_cases c1 : j < dp
  · rw [if_neg (by omega), List.append_assoc, List.getElem?_append_left (by simp; omega)]
    simp [List.getElem?_take, c1, hj]
  · by_cases c2 : j < dp + nn
    · rw [if_pos ⟨by omega, c2⟩, List.getElem?_append_left (by simp; omega), List.getElem?_append_right (by simp; omega)]
      simp [show min dp sz' = dp by omega, show j - dp < nn by omega]
    · rw [if_neg (by omega), List.getElem?_append_right (by simp; omega)]
      simp [show min dp sz' = dp by omega, List.getElem?_drop, show dp + nn + (j - (dp + nn)) = j by omega, hj]
end OwnKit

/-- what the method answers, and what the law's own reference answers -/
def own_ws (k : Int32) : Int32 := if k = 32 ∨ k = 9 ∨ k = 13 ∨ k = 10 then 1 else 0
def own_ref (k : Int32) : Int32 := if k < 64 then (if XT.cmpL (XT.ushrL 4294977024 k &&& 1) 0 = 0 then 0 else 1) else 0
theorem own_small : ∀ n : Fin 64, own_ws (Int32.ofNat n.val) = own_ref (Int32.ofNat n.val) := by decide +kernel
theorem own_mask (x : Int32) : ∃ n : Nat, n < 65536 ∧ (x &&& (65535 : Int32)) = Int32.ofNat n := by
  have e1 : (x &&& 65535).toInt = x.toInt % 2 ^ 16 := Jvm.Kit.i32_mask x 65535 (k := 16) (by decide) (by decide)
  refine ⟨(x &&& 65535).toInt.toNat, by omega, ?_⟩
  apply Int32.toInt_inj.mp
  rw [Int32.toInt_ofNat_small (by omega)]
  omega
theorem own_char (n : Nat) (h : n < 65536) : (Int32.ofNat n).toUInt32.toUInt16.toUInt32.toInt32 = Int32.ofNat n := by
  apply Int32.toBitVec_inj.mp
  apply BitVec.eq_of_toNat_eq
  have e : (Int32.ofNat n).toBitVec.toNat = n := by
    show (BitVec.ofNat 32 n).toNat = n
    rw [BitVec.toNat_ofNat]; omega
  have e2 : (Int32.ofNat n).toUInt32.toNat = n := e
  rw [e]
  show ((Int32.ofNat n).toUInt32.toUInt16.toUInt32).toNat = n
  simp [e2, Nat.mod_eq_of_lt h]
theorem own_law (x : Int32) : own_ws (x &&& (65535 : Int32)).toUInt32.toUInt16.toUInt32.toInt32 = own_ref (x &&& (65535 : Int32)) := by
  obtain ⟨n, hn, e⟩ := own_mask x
  rw [e, own_char n hn]
  by_cases q : n < 64
  · exact own_small ⟨n, q⟩
  · have hi : (Int32.ofNat n).toInt = n := Int32.toInt_ofNat_small (by omega)
    have h64 : ¬ Int32.ofNat n < 64 := by rw [Int32.lt_iff_toInt_lt, hi]; show ¬ (n : Int) < 64; omega
    have ne : ∀ k : Nat, k < 64 → ¬ Int32.ofNat n = Int32.ofNat k := fun k hk r => by
      have := congrArg Int32.toInt r
      rw [hi, Int32.toInt_ofNat_small (by omega)] at this; omega
    have a1 : ¬ Int32.ofNat n = 32 := ne 32 (by omega)
    have a2 : ¬ Int32.ofNat n = 9 := ne 9 (by omega)
    have a3 : ¬ Int32.ofNat n = 13 := ne 13 (by omega)
    have a4 : ¬ Int32.ofNat n = 10 := ne 10 (by omega)
    simp [own_ws, own_ref, h64, a1, a2, a3, a4]
theorem own_ws01 (k : Int32) : own_ws k = 0 ∨ own_ws k = 1 := by unfold own_ws; split <;> simp

theorem d1_0 : decode prog_157_method_2_code 0 = .ok (.iload_n 0, 1) := by decide +kernel
theorem d1_1 : decode prog_157_method_2_code 1 = .ok (.bipush 32, 2) := by decide +kernel
theorem d1_3 : decode prog_157_method_2_code 3 = .ok (.if_icmp .eq 21, 3) := by decide +kernel
theorem d1_6 : decode prog_157_method_2_code 6 = .ok (.iload_n 0, 1) := by decide +kernel
theorem d1_7 : decode prog_157_method_2_code 7 = .ok (.bipush 9, 2) := by decide +kernel
theorem d1_9 : decode prog_157_method_2_code 9 = .ok (.if_icmp .eq 15, 3) := by decide +kernel
theorem d1_12 : decode prog_157_method_2_code 12 = .ok (.iload_n 0, 1) := by decide +kernel
theorem d1_13 : decode prog_157_method_2_code 13 = .ok (.bipush 13, 2) := by decide +kernel
theorem d1_15 : decode prog_157_method_2_code 15 = .ok (.if_icmp .eq 9, 3) := by decide +kernel
theorem d1_18 : decode prog_157_method_2_code 18 = .ok (.iload_n 0, 1) := by decide +kernel
theorem d1_19 : decode prog_157_method_2_code 19 = .ok (.bipush 10, 2) := by decide +kernel
theorem d1_21 : decode prog_157_method_2_code 21 = .ok (.if_icmp .ne 7, 3) := by decide +kernel
theorem d1_24 : decode prog_157_method_2_code 24 = .ok (.iconst 1, 1) := by decide +kernel
theorem d1_25 : decode prog_157_method_2_code 25 = .ok (.goto 4, 3) := by decide +kernel
theorem d1_28 : decode prog_157_method_2_code 28 = .ok (.iconst 0, 1) := by decide +kernel
theorem d1_29 : decode prog_157_method_2_code 29 = .ok (.ireturn, 1) := by decide +kernel
theorem pn_1 : plainFor (⟨"com/example/topicloom/topicloom/model/Xml", "isWhitespace", "(C)Z"⟩ : MethodName) = true := by first | (exact plainFor_of_name (by first | (simp [plainName, overriddenIn, x]; done) | decide +kernel)) | decide +kernel
set_option maxRecDepth 65536 in
set_option maxHeartbeats 40000000 in
theorem rm1 (l : Launch) (Z : State) (a0 : Array Value) (hw : ∀ d ∈ tables_1, d.before a0 Z = true) (p1 : Int32) (h0 : Heap) :
    OMet l Z (⟨"com/example/topicloom/topicloom/model/Xml", "isWhitespace", "(C)Z"⟩ : MethodName) prog_157_method_2_code 1 (some (.boolean)) [] ({ frames := 0, cells := 0, slots := 0, locals := 0 } : Room) #[.int p1] h0 (Pu (.int (own_ws p1)) h0) := by
  refine own_body (Ls := #[.val (.int p1)]) pn_1 (fun m => by first | (simp [entryFrame, mkF, argsToLocals, Value.category, maxLocals]; done) | rfl) ?_
  intro p e s m below meth c s₁ X0 hx hby hml hown hnm hret hlk hZ e0
  refine g_iloadN (n := 1) X0 hx (hb hby d1_0) rfl rfl ?_
  refine g_bipush (n := 3) X0 hx (32 : Int32) (hb hby d1_1) rfl rfl ?_
  refine g_icmp (n := 24) (n' := 6) X0 hx _ (own_ceq _ _) (hb hby d1_3) (by decide) (by decide) rfl (fun hc1 => ?_) (fun hc1 => ?_)
  · refine g_iconst (n := 25) X0 hx (1 : Int32) (hb hby d1_24) rfl rfl ?_
    refine g_goto (n := 29) X0 hx (hb hby d1_25) (by decide) (by decide) ?_
    refine g_retZ X0 hx (by decide) hret hlk (hb hby d1_29) (Fe.of (by decide) (by decide)) ?_
    try rw [e0]
    exact ⟨by simp [own_ws, *], rfl, rfl⟩
  · refine g_iloadN (n := 7) X0 hx (hb hby d1_6) rfl rfl ?_
    refine g_bipush (n := 9) X0 hx (9 : Int32) (hb hby d1_7) rfl rfl ?_
    refine g_icmp (n := 24) (n' := 12) X0 hx _ (own_ceq _ _) (hb hby d1_9) (by decide) (by decide) rfl (fun hc2 => ?_) (fun hc2 => ?_)
    · refine g_iconst (n := 25) X0 hx (1 : Int32) (hb hby d1_24) rfl rfl ?_
      refine g_goto (n := 29) X0 hx (hb hby d1_25) (by decide) (by decide) ?_
      refine g_retZ X0 hx (by decide) hret hlk (hb hby d1_29) (Fe.of (by decide) (by decide)) ?_
      try rw [e0]
      exact ⟨by simp [own_ws, *], rfl, rfl⟩
    · refine g_iloadN (n := 13) X0 hx (hb hby d1_12) rfl rfl ?_
      refine g_bipush (n := 15) X0 hx (13 : Int32) (hb hby d1_13) rfl rfl ?_
      refine g_icmp (n := 24) (n' := 18) X0 hx _ (own_ceq _ _) (hb hby d1_15) (by decide) (by decide) rfl (fun hc3 => ?_) (fun hc3 => ?_)
      · refine g_iconst (n := 25) X0 hx (1 : Int32) (hb hby d1_24) rfl rfl ?_
        refine g_goto (n := 29) X0 hx (hb hby d1_25) (by decide) (by decide) ?_
        refine g_retZ X0 hx (by decide) hret hlk (hb hby d1_29) (Fe.of (by decide) (by decide)) ?_
        try rw [e0]
        exact ⟨by simp [own_ws, *], rfl, rfl⟩
      · refine g_iloadN (n := 19) X0 hx (hb hby d1_18) rfl rfl ?_
        refine g_bipush (n := 21) X0 hx (10 : Int32) (hb hby d1_19) rfl rfl ?_
        refine g_icmp (n := 28) (n' := 24) X0 hx _ (own_cne _ _) (hb hby d1_21) (by decide) (by decide) rfl (fun hc4 => ?_) (fun hc4 => ?_)
        · refine g_iconst (n := 29) X0 hx (0 : Int32) (hb hby d1_28) rfl rfl ?_
          refine g_retZ X0 hx (by decide) hret hlk (hb hby d1_29) (Fe.of (by decide) (by decide)) ?_
          try rw [e0]
          exact ⟨by simp [own_ws, *], rfl, rfl⟩
        · refine g_iconst (n := 25) X0 hx (1 : Int32) (hb hby d1_24) rfl rfl ?_
          refine g_goto (n := 29) X0 hx (hb hby d1_25) (by decide) (by decide) ?_
          refine g_retZ X0 hx (by decide) hret hlk (hb hby d1_29) (Fe.of (by decide) (by decide)) ?_
          try rw [e0]
          exact ⟨by simp [own_ws, *], rfl, rfl⟩
theorem d2_0 : decode method_2_code 0 = .ok (.iload_n 0, 1) := by decide +kernel
theorem d2_1 : decode method_2_code 1 = .ok (.bipush 64, 2) := by decide +kernel
theorem d2_3 : decode method_2_code 3 = .ok (.if_icmp .lt 5, 3) := by decide +kernel
theorem d2_6 : decode method_2_code 6 = .ok (.iconst 0, 1) := by decide +kernel
theorem d2_7 : decode method_2_code 7 = .ok (.ireturn, 1) := by decide +kernel
theorem d2_8 : decode method_2_code 8 = .ok (.ldc2_w 9, 3) := by decide +kernel
theorem d2_11 : decode method_2_code 11 = .ok (.iload_n 0, 1) := by decide +kernel
theorem d2_12 : decode method_2_code 12 = .ok (.lushr, 1) := by decide +kernel
theorem d2_13 : decode method_2_code 13 = .ok (.lconst 1, 1) := by decide +kernel
theorem d2_14 : decode method_2_code 14 = .ok (.land, 1) := by decide +kernel
theorem d2_15 : decode method_2_code 15 = .ok (.lconst 0, 1) := by decide +kernel
theorem d2_16 : decode method_2_code 16 = .ok (.lcmp, 1) := by decide +kernel
theorem d2_17 : decode method_2_code 17 = .ok (.ifCond .eq 7, 3) := by decide +kernel
theorem d2_20 : decode method_2_code 20 = .ok (.iconst 1, 1) := by decide +kernel
theorem d2_21 : decode method_2_code 21 = .ok (.goto 4, 3) := by decide +kernel
theorem d2_24 : decode method_2_code 24 = .ok (.iconst 0, 1) := by decide +kernel
theorem d2_25 : decode method_2_code 25 = .ok (.ireturn, 1) := by decide +kernel
theorem pn_2 : plainFor (⟨"com/example/topicloom/topicloom/model/XmlIsWhitespacePinLaw", "reference", "(I)Z"⟩ : MethodName) = true := by first | (exact plainFor_of_name (by first | (simp [plainName, overriddenIn, x]; done) | decide +kernel)) | decide +kernel
set_option maxRecDepth 65536 in
set_option maxHeartbeats 40000000 in
theorem rm2 (l : Launch) (Z : State) (a0 : Array Value) (hw : ∀ d ∈ tables_1, d.before a0 Z = true) (p1 : Int32) (h0 : Heap) :
    OMet l Z (⟨"com/example/topicloom/topicloom/model/XmlIsWhitespacePinLaw", "reference", "(I)Z"⟩ : MethodName) method_2_code 1 (some (.boolean)) [] ({ frames := 0, cells := 0, slots := 0, locals := 0 } : Room) #[.int p1] h0 (Pu (.int (own_ref p1)) h0) := by
  refine own_body (Ls := #[.val (.int p1)]) pn_2 (fun m => by first | (simp [entryFrame, mkF, argsToLocals, Value.category, maxLocals]; done) | rfl) ?_
  intro p e s m below meth c s₁ X0 hx hby hml hown hnm hret hlk hZ e0
  refine g_iloadN (n := 1) X0 hx (hb hby d2_0) rfl rfl ?_
  refine g_bipush (n := 3) X0 hx (64 : Int32) (hb hby d2_1) rfl rfl ?_
  refine g_icmp (n := 8) (n' := 6) X0 hx _ (own_clt _ _) (hb hby d2_3) (by decide) (by decide) rfl (fun hc1 => ?_) (fun hc1 => ?_)
  · refine g_ldc2 (n := 11) X0 hx hZ hown (hw _ (List.mem_of_getElem? (i := 9) rfl)) (hb hby d2_8) rfl ?_
    refine g_iloadN (n := 12) X0 hx (hb hby d2_11) rfl rfl ?_
    refine g_lushr (n := 13) X0 hx (hb hby d2_12) rfl ?_
    refine g_lconst (n := 14) X0 hx (1 : Int64) (hb hby d2_13) rfl rfl ?_
    refine g_land (n := 15) X0 hx (hb hby d2_14) rfl ?_
    refine g_lconst (n := 16) X0 hx (0 : Int64) (hb hby d2_15) rfl rfl ?_
    refine g_lcmp (n := 17) X0 hx (hb hby d2_16) rfl ?_
    refine g_if (n := 24) (n' := 20) X0 hx _ (own_zeq _) (hb hby d2_17) (by decide) (by decide) rfl (fun hc2 => ?_) (fun hc2 => ?_)
    · refine g_iconst (n := 25) X0 hx (0 : Int32) (hb hby d2_24) rfl rfl ?_
      refine g_retZ X0 hx (by decide) hret hlk (hb hby d2_25) (Fe.of (by decide) (by decide)) ?_
      try rw [e0]
      exact ⟨by simp [own_ref, *], rfl, rfl⟩
    · refine g_iconst (n := 21) X0 hx (1 : Int32) (hb hby d2_20) rfl rfl ?_
      refine g_goto (n := 25) X0 hx (hb hby d2_21) (by decide) (by decide) ?_
      refine g_retZ X0 hx (by decide) hret hlk (hb hby d2_25) (Fe.of (by decide) (by decide)) ?_
      try rw [e0]
      exact ⟨by simp [own_ref, *], rfl, rfl⟩
  · refine g_iconst (n := 7) X0 hx (0 : Int32) (hb hby d2_6) rfl rfl ?_
    refine g_retZ X0 hx (by decide) hret hlk (hb hby d2_7) (Fe.of (by decide) (by decide)) ?_
    try rw [e0]
    exact ⟨by simp [own_ref, *], rfl, rfl⟩
theorem pn_0 : plainFor x = true := by first | (exact plainFor_of_name (by first | (simp [plainName, overriddenIn, x]; done) | decide +kernel)) | decide +kernel
theorem pd_0 : parseMethodDescriptor "(C)Z" = some ⟨[.char], some (.boolean)⟩ := by decide +kernel
theorem pd_1 : parseMethodDescriptor "(I)Z" = some ⟨[.int], some (.boolean)⟩ := by decide +kernel
set_option maxRecDepth 65536 in
set_option maxHeartbeats 40000000 in
theorem rm0 (l : Launch) (Z : State) (a0 : Array Value) (hw : ∀ d ∈ tables_1, d.before a0 Z = true) (p1 : Int32) (h0 : Heap) :
    OMet l Z x code maxLocals ret tables_1 room_1 #[.int p1] h0 (fun v h L => v = some (.int 1) ∧ Fr h0.size L) := by
  refine own_body (Ls := #[.val (.int p1), .unset, .unset, .unset]) pn_0 (fun m => by first | (simp [entryFrame, mkF, argsToLocals, Value.category, maxLocals]; done) | rfl) ?_
  intro p e s m below meth c s₁ X0 hx hby hml hown hnm hret hlk hZ e0
  refine g_iloadN (n := 1) X0 hx (hb hby at_0) rfl rfl ?_
  refine g_ldcI (n := 3) X0 hx hZ hown (hw _ (List.mem_of_getElem? (i := 0) rfl)) (hb hby at_1) rfl ?_
  refine g_iand (n := 4) X0 hx (hb hby at_3) rfl ?_
  refine g_istoreN (n := 5) X0 hx (hb hby at_4) rfl #[.val (.int p1), .val (.int (p1 &&& (65535 : Int32))), .unset, .unset] rfl ?_
  refine g_iloadN (n := 6) X0 hx (hb hby at_5) rfl rfl ?_
  refine g_i2c (n := 7) X0 hx (hb hby at_6) rfl ?_
  refine g_istoreN (n := 8) X0 hx (hb hby at_7) rfl #[.val (.int p1), .val (.int (p1 &&& (65535 : Int32))), .val (.int (p1 &&& (65535 : Int32)).toUInt32.toUInt16.toUInt32.toInt32), .unset] rfl ?_
  refine g_iloadN (n := 9) X0 hx (hb hby at_8) rfl rfl ?_
  refine g_callSP (n := 12) (st := []) X0 hx hZ hown e0 (hw _ (List.mem_of_getElem? (i := 1) rfl)) (hw _ (List.mem_of_getElem? (i := 2) rfl)) (hw _ (List.mem_of_getElem? (i := 3) rfl)) (hw _ (List.mem_of_getElem? (i := 4) rfl)) (by decide) [.int (p1 &&& (65535 : Int32)).toUInt32.toUInt16.toUInt32.toInt32] (rm1 l Z a0 hw _ h0) pd_0 rfl (hb hby at_9) rfl (by rw [hml]; rfl) (by decide) 0 (Nat.le_of_eq rfl) (by decide) (by decide) (by decide) ?_
  intro T11 X11 e11
  refine g_istoreN (n := 13) X11 hx (hb hby at_12) rfl #[.val (.int p1), .val (.int (p1 &&& (65535 : Int32))), .val (.int (p1 &&& (65535 : Int32)).toUInt32.toUInt16.toUInt32.toInt32), .val (.int (own_ws (p1 &&& (65535 : Int32)).toUInt32.toUInt16.toUInt32.toInt32))] rfl ?_
  refine g_iloadN (n := 14) X11 hx (hb hby at_13) rfl rfl ?_
  refine g_iloadN (n := 15) X11 hx (hb hby at_14) rfl rfl ?_
  refine g_callSP (n := 18) (st := [(.int (own_ws (p1 &&& (65535 : Int32)).toUInt32.toUInt16.toUInt32.toInt32))]) X11 hx hZ hown e11 (hw _ (List.mem_of_getElem? (i := 5) rfl)) (hw _ (List.mem_of_getElem? (i := 6) rfl)) (hw _ (List.mem_of_getElem? (i := 7) rfl)) (hw _ (List.mem_of_getElem? (i := 8) rfl)) (by decide) [.int (p1 &&& (65535 : Int32))] (rm2 l Z a0 hw _ h0) pd_1 rfl (hb hby at_15) rfl (by rw [hml]; rfl) (by decide) 1 (Nat.le_of_eq rfl) (by decide) (by decide) (by decide) ?_
  intro T12 X12 e12
  refine g_icmp (n := 25) (n' := 21) X12 hx _ (own_cne _ _) (hb hby at_18) (by decide) (by decide) rfl (fun hc => absurd hc (fun q => q (own_law p1))) (fun _ => ?_)
  refine g_iconst (n := 22) X12 hx (1 : Int32) (hb hby at_21) rfl rfl ?_
  refine g_goto (n := 26) X12 hx (hb hby at_22) (by decide) (by decide) ?_
  refine g_retZ X12 hx (by decide) hret hlk (hb hby at_26) (Fe.of (by decide) (by decide)) ?_
  try rw [e12]
  exact ⟨rfl, Fr.nil _⟩
set_option maxRecDepth 65536 in
set_option maxHeartbeats 40000000 in
theorem comes_1 {Post : Tables → Env → Array Value → State → Outcome → State → Prop} (hpost : ∀ tb e args s v u, (limb_1_1.after args s (.returned v) u = true ∧ limb_1_2.after args s (.returned v) u = true ∧ True) → FrameEnd s (.returned v) u (Jvm.fieldLocs frame_1_writes args s ++ Jvm.arrayLocs frame_1_arrays args s ++ Jvm.staticLocs frame_1_statics s) 0 0 → Post tb e args s (.returned v) u) :
    ArmFor flags0 classFile x code maxLocals ret World_1 tables_1 room_1 Calls_1 rest_1 Pre_1 Post := by
  intro l hfl _ _ p e ha hc hk s m args below hf hA hF happ hP
  obtain ⟨hcalls, hrest, hpre⟩ := hP
  obtain ⟨-, -, -, hnamed, -, -, -, hat⟩ := (Spec.applies_iff hf).mp happ
  obtain ⟨hg, hn⟩ := and_e (Cond.before_iff.mp (show (Jvm.Cond.and given_1 narrow_1).before args s = true from hpre))
  obtain ⟨h1, hg1⟩ := and_e hg
  obtain ⟨w0, rfl⟩ : ∃ w0 : Value, args = #[w0] := by
    have hs : args.size = 1 := by simpa [Cond.value, given_1] using h1
    obtain ⟨L⟩ := args
    match L, hs with
    | [w0], _ => exact ⟨w0, rfl⟩
  have hw := fun d (hd : d ∈ tables_1) => atoms_spec (ws := Jvm.Cond.code x code maxLocals ret :: tables_1) hat d (List.mem_cons_of_mem _ hd)
  have hfit : Fit s := fun {y c} hc i hi => by
    obtain ⟨ha, rfl⟩ := Array.getElem?_eq_some_iff.mp hc
    have q := List.all_eq_true.mp ((Array.all_eq_true_iff_forall_mem.mp hF) _ (Array.getElem_mem ha)) i (List.mem_range.mpr hi)
    simpa [Array.getElem?_eq_getElem hi] using q
  obtain ⟨i0, e0⟩ := is_v hg1
  obtain rfl : w0 = (.int i0) := Option.some.inj e0
  obtain ⟨n, o, h1, h2, h3, _, L, rfl, ⟨rfl, N⟩, hq⟩ := rm0 l s _ hw i0 s.heap  p e ha hc hk s m _ below hf ((Spec.applies_iff_loose hf).mp happ).1 ⟨rfl, State.Warmed39.refl s, rfl⟩ trivial
  refine ⟨n, _, h1, h2, h3, hpost _ _ _ _ _ _ ⟨Cond.after_iff.mpr rfl, Cond.after_iff.mpr (eq_i res_at (Term.int_eval (1)) rfl), trivial⟩ ⟨hq.1, hq.2.1, (hq.2.2.sift fun y hy => Or.inr (N y hy)).mono (by decide) (by decide)⟩⟩
theorem main_1_1 : Claimed_1_1 := comes_1 fun _ _ _ _ _ _ h hF => ⟨h.1, hF⟩
theorem main_1_2 : Claimed_1_2 := comes_1 fun _ _ _ _ _ _ h hF => ⟨h.2.1, hF⟩


end Jvm.Pilot.@@N@@
namespace Jvm.Pilot.@@N@@
open Jvm Jvm.ClassFile Sem Op Lib Jvm.Free Jvm.Stand Jvm.Pilot.@@N@@.Jvm.D
/-! MADE BY PROGRAM (witnessworld.py) out of the Statement's table words and the real class files: 9 classes; the members and pool entries that the words name. The judged class is class 1, her method 2. -/
namespace start1
open Jvm.ClassFile
def u (s : String) : CpInfo := .utf8 (stringToUtf16 s)
/-- a pool by its gaps: so many unusable entries, then the entry; so many at the end -/
def gap : Nat → List CpInfo → List CpInfo
  | 0, r => r
  | n + 1, r => .unusable :: gap n r
def poolList (es : List (Nat × CpInfo)) (last : Nat) : List CpInfo := es.foldr (fun e r => gap e.1 (e.2 :: r)) (gap last [])
def pool (es : List (Nat × CpInfo)) (last : Nat) : Array CpInfo := ⟨poolList es last⟩
def fileOf (pool : Array CpInfo) (this : Nat) (attrs : Array Attribute := #[]) (ms : Array MethodInfo := #[]) (fl : Nat := 33) (sup : Nat := 0) (ifs : Array Nat := #[]) (fds : Array FieldInfo := #[]) : ClassFile where
  minorVersion := 0
  majorVersion := 65
  constantPool := pool
  accessFlags := fl
  thisClass := this
  superClass := sup
  interfaces := ifs
  fields := fds
  methods := ms
  attributes := attrs
def plain (name : String) (sup : Option ClassId) : Class where
  name := name
  kind := .ordinary
  loader := none
  accessFlags := 33
  super := sup
  interfaces := #[]
  cf := none
  fields := #[]
  methods := #[]
  instanceTypes := #[]
  staticTypes := #[]
  resolved := #[]
  callSites := []
  init := .initialized
  statics := none
  mirror := none

def pool0 : Array CpInfo := pool [(5, u "<init>"), (0, u "()V"), (1, .class_ 10), (1, u "java/lang/Object")] 113

def k0m0 : Method := { name := "<init>", desc := "()V", sig := { parameters := [], returnType := none }, accessFlags := 1, code := none }
/-- java/lang/Object -/
def k0 : Class := { plain "java/lang/Object" none with
  accessFlags := 33
  interfaces := #[]
  cf := some (fileOf pool0 8 #[] #[{ accessFlags := 1, nameIndex := 5, descriptorIndex := 6, attributes := #[] }] 33 0 #[] #[])
  fields := #[]
  methods := #[k0m0]
  instanceTypes := #[]
  staticTypes := #[]
  resolved := Array.replicate 124 none
  statics := none }

def pool1 : Array CpInfo := pool [(2, .class_ 4), (1, u "java/lang/Object"), (0, u "<init>"), (0, u "()V"), (0, .class_ 8), (0, u "com/example/topicloom/topicloom/model/XmlIsWhitespacePinLaw"), (0, .long 4294977024), (1, .integer 65535), (0, .methodref 13 14), (0, .class_ 15), (0, .nameAndType 16 17), (0, u "com/example/topicloom/topicloom/model/Xml"), (0, u "isWhitespace"), (0, u "(C)Z"), (0, .methodref 7 19), (0, .nameAndType 20 21), (0, u "reference"), (0, u "(I)Z"), (0, u "XML_WS_MASK"), (0, u "J"), (4, u "law")] 2

def k1m0 : Method := { name := "<init>", desc := "()V", sig := { parameters := [], returnType := none }, accessFlags := 2, code := none }
def k1c1 : Code := { maxStack := 4, maxLocals := 1, code := method_2_code, exceptionTable := #[], attributes := #[] }
def k1m1 : Method := { name := "reference", desc := "(I)Z", sig := { parameters := [.int], returnType := some .boolean }, accessFlags := 10, code := some k1c1 }
def k1c2 : Code := { maxStack := 2, maxLocals := 4, code := code, exceptionTable := #[], attributes := #[] }
def k1m2 : Method := { name := "law", desc := "(I)Z", sig := { parameters := [.int], returnType := some .boolean }, accessFlags := 9, code := some k1c2 }
/-- com/example/topicloom/topicloom/model/XmlIsWhitespacePinLaw -/
def k1 : Class := { plain "com/example/topicloom/topicloom/model/XmlIsWhitespacePinLaw" (some 0) with
  accessFlags := 49
  interfaces := #[]
  cf := some (fileOf pool1 7 #[] #[{ accessFlags := 2, nameIndex := 5, descriptorIndex := 6, attributes := #[] }, { accessFlags := 10, nameIndex := 20, descriptorIndex := 21, attributes := #[] }, { accessFlags := 9, nameIndex := 28, descriptorIndex := 21, attributes := #[] }] 49 2 #[] #[{ accessFlags := 26, nameIndex := 22, descriptorIndex := 23, attributes := #[] }])
  fields := #[{ name := "XML_WS_MASK", type := .long, accessFlags := 26, slot := 0, constantValue := 0 }]
  methods := #[k1m0, k1m1, k1m2]
  instanceTypes := #[]
  staticTypes := #[.long]
  resolved := Array.replicate 31 none
  statics := none }

def pool2 : Array CpInfo := pool [(2, .class_ 4), (1, u "java/lang/Object"), (0, u "<init>"), (0, u "()V"), (11, .class_ 20), (1, u "com/example/topicloom/topicloom/model/Xml"), (9, u "isWhitespace"), (25, u "(C)Z"), (20, u "WHITESPACE"), (0, u "Ljava/util/regex/Pattern;"), (0, u "NEXT_LINE"), (0, u "I")] 19

def k2m0 : Method := { name := "<init>", desc := "()V", sig := { parameters := [], returnType := none }, accessFlags := 2, code := none }
def k2c1 : Code := { maxStack := 2, maxLocals := 1, code := prog_157_method_2_code, exceptionTable := #[], attributes := #[] }
def k2m1 : Method := { name := "isWhitespace", desc := "(C)Z", sig := { parameters := [.char], returnType := some .boolean }, accessFlags := 9, code := some k2c1 }
/-- com/example/topicloom/topicloom/model/Xml -/
def k2 : Class := { plain "com/example/topicloom/topicloom/model/Xml" (some 0) with
  accessFlags := 49
  interfaces := #[]
  cf := some (fileOf pool2 18 #[] #[{ accessFlags := 2, nameIndex := 5, descriptorIndex := 6, attributes := #[] }, { accessFlags := 9, nameIndex := 30, descriptorIndex := 56, attributes := #[] }] 49 2 #[] #[{ accessFlags := 24, nameIndex := 77, descriptorIndex := 78, attributes := #[] }, { accessFlags := 26, nameIndex := 79, descriptorIndex := 80, attributes := #[] }])
  fields := #[{ name := "WHITESPACE", type := (.object "java/util/regex/Pattern"), accessFlags := 24, slot := 0, constantValue := 0 }, { name := "NEXT_LINE", type := .int, accessFlags := 26, slot := 1, constantValue := 0 }]
  methods := #[k2m0, k2m1]
  instanceTypes := #[]
  staticTypes := #[(.object "java/util/regex/Pattern"), .int]
  resolved := Array.replicate 100 none
  statics := none }

def pool3 : Array CpInfo := pool [(1, u "java/lang/Cloneable"), (0, .class_ 1), (0, u "java/lang/Object"), (0, .class_ 3)] 3

/-- java/lang/Cloneable -/
def k3 : Class := { plain "java/lang/Cloneable" (some 0) with
  accessFlags := 1537
  interfaces := #[]
  cf := some (fileOf pool3 2 #[] #[] 1537 4 #[] #[])
  fields := #[]
  methods := #[]
  instanceTypes := #[]
  staticTypes := #[]
  resolved := Array.replicate 8 none
  statics := none }

def pool4 : Array CpInfo := pool [(1, u "java/io/Serializable"), (0, .class_ 1), (0, u "java/lang/Object"), (0, .class_ 3)] 3

/-- java/io/Serializable -/
def k4 : Class := { plain "java/io/Serializable" (some 0) with
  accessFlags := 1537
  interfaces := #[]
  cf := some (fileOf pool4 2 #[] #[] 1537 4 #[] #[])
  fields := #[]
  methods := #[]
  instanceTypes := #[]
  staticTypes := #[]
  resolved := Array.replicate 8 none
  statics := none }

/-- the primitive byte -/
def k5 : Class := { plain "byte" none with kind := .primitive 'B', accessFlags := 0x411 }
/-- [B -/
def k6 : Class := { plain "[B" (some 0) with kind := .array 5 .byte, interfaces := #[3, 4], accessFlags := 1041 }

/-- the primitive int -/
def k7 : Class := { plain "int" none with kind := .primitive 'I', accessFlags := 0x411 }
/-- [I -/
def k8 : Class := { plain "[I" (some 0) with kind := .array 7 .int, interfaces := #[3, 4], accessFlags := 1041 }

def heap : Heap := #[]
def classes : Array Class := #[k0, k1, k2, k3, k4, k5, k6, k7, k8]
def interned : List (Array UInt16 × Addr) := []
def slotsUsed : Nat := 0
def theMethod : MethodId := ⟨1, 2⟩
def args0 : Array Value := #[.int 5]
def aboutOver (below : List Frame) : State where
  vm := { classes := classes, interned := interned.toArray }
  heap := heap
  slotsUsed := slotsUsed
  threads := #[{ frames := .invoking theMethod args0 :: below }]
def below0 : List Frame := [.native { method := ⟨0, 0⟩, args := #[] }]
def about1 : State := aboutOver below0
def p0 : Program := .bare "" "" ""
def e0 : Env := launch0.env 0 0 0
theorem w_frames : about1.frames = Frame.invoking theMethod args0 :: below0 := rfl
set_option maxRecDepth 65536 in
theorem w_args : argsFit about1.vm theMethod args0 = true := by decide +kernel
set_option maxRecDepth 65536 in
theorem w_heap : heapFits about1 = true := by decide +kernel
set_option maxRecDepth 65536 in
theorem w_runnable : about1.curStatus? = some .runnable := by decide +kernel
set_option maxRecDepth 65536 in
theorem w_alone : about1.alone = true := by decide +kernel
set_option maxRecDepth 65536 in
theorem w_named : about1.methodNamed? x = some theMethod := by decide +kernel
set_option maxRecDepth 65536 in
theorem w_hears : about1.hears theMethod below0 = true := by decide +kernel
set_option maxRecDepth 65536 in
theorem w_ripe : about1.ripe theMethod args0 below0 = true := by decide +kernel
theorem w_running : about1.status = .running := rfl
set_option maxRecDepth 65536 in
theorem w_room : about1.hasRoom e0.platform room_1 = true :=
  launch0.hasRoom_least _ room_1 (by decide +kernel) (by decide +kernel) (by decide +kernel) (by decide +kernel) (by decide +kernel) (by decide +kernel)
theorem allAtoms_all (ts : List Jvm.Cond) (a : Array Jvm.Value) (st : Jvm.State) : (allAtoms ts).before a st = ts.all (fun c => c.before a st) := by
  induction ts with
  | nil => rfl
  | cons c t ih =>
    show (Jvm.Cond.and c (allAtoms t)).before a st = _
    rw [Jvm.Cond.before_and, ih, List.all_cons]
def words1 : List Jvm.Cond := Jvm.Cond.code x code maxLocals ret :: tables_1
/-- a 'code' word, met by the world's own term for the bytes: nothing is compared byte by byte -/
theorem code_word {y : MethodName} {bytes : ByteArray} {mx : Nat} {rt : Option FieldType} {a : Array Value} {s : State} {m : MethodId} {meth : Method} {c : Code} (h1 : s.methodNamed? y = some m) (h2 : s.vm.method? m = some meth) (h3 : meth.code = some c) (h4 : c.code = bytes)
    (h5 : (c.maxLocals == mx && c.exceptionTable.isEmpty && decide (c.maxStack ≤ mostOperands) && decide (meth.sig.returnType = rt) && !meth.locks && decide (parseMethodDescriptor y.desc = some meth.sig)) = true) : (Jvm.Cond.code y bytes mx rt).before a s = true := by
  simp only [Bool.and_eq_true, beq_iff_eq, Bool.not_eq_true', decide_eq_true_eq] at h5
  obtain ⟨⟨⟨⟨⟨g1, g2⟩, g3⟩, g4⟩, g5⟩, g6⟩ := h5
  simp [Cond.before, Cond.holds, Cond.value, h1, h2, h3, h4, g1, g2, g3, g4, g5, g6]
def isCode : Jvm.Cond → Bool
  | .code _ _ _ _ => true
  | _ => false
theorem all_split {L : List Jvm.Cond} {P : Jvm.Cond → Bool} (h1 : L.all (fun c => isCode c || P c) = true) (h2 : ∀ c ∈ L.filter isCode, P c = true) : L.all P = true := by
  refine List.all_eq_true.mpr fun c hc => ?_
  have h := List.all_eq_true.mp h1 c hc
  rcases Bool.eq_false_or_eq_true (isCode c) with hi | hi
  · exact h2 c (List.mem_filter.mpr ⟨hc, hi⟩)
  · simpa [hi] using h
set_option maxRecDepth 65536 in
theorem w_c0 : (Jvm.Cond.code x code maxLocals ret).before args0 about1 = true := code_word (m := ⟨1, 2⟩) (meth := k1m2) (c := k1c2) (by decide +kernel) rfl rfl rfl (by decide +kernel)
set_option maxRecDepth 65536 in
theorem w_c1 : (Jvm.Cond.code ({ cls := "com/example/topicloom/topicloom/model/Xml", name := "isWhitespace", desc := "(C)Z" } : Jvm.MethodName) prog_157_method_2_code (1 : Nat) (Option.some Jvm.ClassFile.FieldType.boolean)).before args0 about1 = true := code_word (m := ⟨2, 1⟩) (meth := k2m1) (c := k2c1) (by decide +kernel) rfl rfl rfl (by decide +kernel)
set_option maxRecDepth 65536 in
theorem w_c2 : (Jvm.Cond.code ({ cls := "com/example/topicloom/topicloom/model/XmlIsWhitespacePinLaw", name := "reference", desc := "(I)Z" } : Jvm.MethodName) method_2_code (1 : Nat) (Option.some Jvm.ClassFile.FieldType.boolean)).before args0 about1 = true := code_word (m := ⟨1, 1⟩) (meth := k1m1) (c := k1c1) (by decide +kernel) rfl rfl rfl (by decide +kernel)
def codes1 : List Jvm.Cond := [Jvm.Cond.code x code maxLocals ret, Jvm.Cond.code ({ cls := "com/example/topicloom/topicloom/model/Xml", name := "isWhitespace", desc := "(C)Z" } : Jvm.MethodName) prog_157_method_2_code (1 : Nat) (Option.some Jvm.ClassFile.FieldType.boolean), Jvm.Cond.code ({ cls := "com/example/topicloom/topicloom/model/XmlIsWhitespacePinLaw", name := "reference", desc := "(I)Z" } : Jvm.MethodName) method_2_code (1 : Nat) (Option.some Jvm.ClassFile.FieldType.boolean)]
set_option maxRecDepth 65536 in
theorem codes_eq : words1.filter isCode = codes1 := rfl
theorem w_codes : ∀ c ∈ words1.filter isCode, c.before args0 about1 = true := by
  rw [codes_eq]
  intro c hc
  simp only [codes1, List.mem_cons, List.not_mem_nil, or_false] at hc
  rcases hc with rfl | rfl | rfl
  · exact w_c0
  · exact w_c1
  · exact w_c2
set_option maxRecDepth 65536 in
theorem w_t1 : words1.all (fun c => isCode c || c.before args0 about1) = true := by decide +kernel
theorem w_tables : (allAtoms (Jvm.Cond.code x code maxLocals ret :: tables_1)).before args0 about1 = true := by
  rw [allAtoms_all]
  show words1.all (fun c => c.before args0 about1) = true
  refine all_split ?_ w_codes
  rw [w_t1]
set_option maxRecDepth 65536 in
theorem w_case : (Jvm.Cond.and given_1 narrow_1).before args0 about1 = true := by decide +kernel
theorem w_applies : (headSpec (Jvm.Cond.code x code maxLocals ret :: tables_1) room_1).applies x e0.platform about1 = true :=
  (Spec.applies_iff w_frames).mpr ⟨w_running, w_runnable, w_alone, w_named, w_hears, w_ripe, w_room, w_tables⟩
theorem atStart : AtStart classFile x code maxLocals ret World_1 tables_1 room_1 Calls_1 rest_1 Pre_1 launch0 p0 e0 about1 theMethod args0 below0 :=
  ⟨lists_1, trivial, launch0.admits_env _ _ _, launch0.least_env, fairChoices_fair.cas, fairChoices_fair.clock, w_frames, w_args, w_heap, w_applies, trivial, trivial, w_case⟩
end start1
theorem witness_1 : WitnessClaimed_1 := ⟨start1.p0, start1.e0, start1.about1, start1.theMethod, start1.args0, start1.below0, start1.atStart⟩
end Jvm.Pilot.@@N@@
