import JvmDerived
import JvmDerived.Pilot.@@N@@Statement
import JvmDerived.Pilot.@@N@@Code
set_option linter.unusedVariables false
set_option linter.unusedSimpArgs false
@@BLOCK:NumsL.lean.txt@@
namespace Jvm.Pilot.@@N@@
open Jvm Jvm.ClassFile Sem Op Lib Jvm.Free Jvm.Stand Jvm.LawKit Jvm.RoadKit Bundle Jvm.Pilot.@@N@@.Jvm.D

section OwnKit
variable {p : Program} {l : Launch} {e : Env} {R : Room} {s : State} {m : MethodId} {args : Array Value} {below : List Frame} {meth : Method} {c : Code} {T T' : State} {locs : List Loc} {cells slots C S : Nat} {Nd : Outcome → State → List Loc → Prop} {Q : Option Value → Heap → List Loc → Prop} {pc n : Nat} {Ls Ls' : Array Slot} {st : List Value} {g g' : JFrame} {Z : State} {a0 : Array Value} {h : Heap}
/-- from T, with the frame g on top, the method comes to its end, and Q is said of what it returns, of the heap and of the places written -/
def Go (p : Program) (e : Env) (below : List Frame) (Nd : Outcome → State → List Loc → Prop) (Q : Option Value → Heap → List Loc → Prop) (T : State) (g : JFrame) : Prop :=
  ∃ s₂ o, Steps p.tables e below (T.setTop g) s₂ ∧ s₂.status = .running ∧ Ended s₂ below o ∧ ∃ v L, o = .returned v ∧ Q v s₂.heap L ∧ Nd o s₂ L
/-- the narrow end, and the wide one (String constants may have come) -/
def Fe (s : State) (C S : Nat) (o : Outcome) (t : State) (L : List Loc) : Prop := FrameEnd s o t L C S
def Fw (s : State) (C S : Nat) (o : Outcome) (t : State) (L : List Loc) : Prop := ReturnedEndW s o t L C S
theorem Fe.of {v : Option Value} (hC : cells ≤ C) (hS : slots ≤ S) : ∀ t, FrameEnd s (.returned v) t locs cells slots → t.heap = T.heap → Fe s C S (.returned v) t locs := fun t q _ => ⟨q.1, q.2.1, q.2.2.mono hC hS⟩
theorem Go.stp (q : ∀ t, Steps p.tables e below (T'.setTop g') t → Steps p.tables e below (T.setTop g) t) (k : Go p e below Nd Q T' g') : Go p e below Nd Q T g := by
  obtain ⟨s₂, o, h1, h2⟩ := k; exact ⟨s₂, o, q _ h1, h2⟩
theorem Go.tr (q : Steps p.tables e below (T.setTop g) (T'.setTop g')) (k : Go p e below Nd Q T' g') : Go p e below Nd Q T g := Go.stp (fun _ r => q.trans r) k
theorem Go.mono {Q' : Option Value → Heap → List Loc → Prop} (k : Go p e below Nd Q T g) (q : ∀ v h L, Q v h L → Q' v h L) : Go p e below Nd Q' T g := by
  obtain ⟨s₂, o, h1, h2, h3, v, L, h4, h5, h6⟩ := k; exact ⟨s₂, o, h1, h2, h3, v, L, h4, q _ _ _ h5, h6⟩
theorem g_aloadN (X : Stand p l e R s m args below meth c T locs cells slots) (hx : p.tables.exec = Jvm.exec) {k : Fin 4} {v : Value} (hd : decode c.code pc = .ok (.aload_n k, 1)) (hn : pc + 1 = n) (hl : Ls[k.val]? = some (.val v)) (hv : v.isRef = true) (k : Go p e below Nd Q T (mkF m n Ls (v :: st))) : Go p e below Nd Q T (mkF m pc Ls st) := by
  subst hn; exact Go.stp (fun t q => XS.aloadN X.here hx rfl hd hl hv q) k
theorem g_aload (X : Stand p l e R s m args below meth c T locs cells slots) (hx : p.tables.exec = Jvm.exec) {k : Nat} {v : Value} (hd : decode c.code pc = .ok (.aload k, 2)) (hn : pc + 2 = n) (hl : Ls[k]? = some (.val v)) (hv : v.isRef = true) (k : Go p e below Nd Q T (mkF m n Ls (v :: st))) : Go p e below Nd Q T (mkF m pc Ls st) := by
  subst hn; exact Go.stp (fun t q => XS.aload X.here hx rfl hd hl hv q) k
theorem g_iloadN (X : Stand p l e R s m args below meth c T locs cells slots) (hx : p.tables.exec = Jvm.exec) {k : Fin 4} {v : Int32} (hd : decode c.code pc = .ok (.iload_n k, 1)) (hn : pc + 1 = n) (hl : Ls[k.val]? = some (.val (.int v))) (k : Go p e below Nd Q T (mkF m n Ls (.int v :: st))) : Go p e below Nd Q T (mkF m pc Ls st) := by
  subst hn; exact Go.stp (fun t q => XS.iloadN X.here hx rfl hd hl q) k
theorem g_iload (X : Stand p l e R s m args below meth c T locs cells slots) (hx : p.tables.exec = Jvm.exec) {k : Nat} {v : Int32} (hd : decode c.code pc = .ok (.iload k, 2)) (hn : pc + 2 = n) (hl : Ls[k]? = some (.val (.int v))) (k : Go p e below Nd Q T (mkF m n Ls (.int v :: st))) : Go p e below Nd Q T (mkF m pc Ls st) := by
  subst hn; exact Go.stp (fun t q => XS.iload X.here hx rfl hd hl q) k
theorem g_istoreN (X : Stand p l e R s m args below meth c T locs cells slots) (hx : p.tables.exec = Jvm.exec) {k : Fin 4} {v : Int32} (hd : decode c.code pc = .ok (.istore_n k, 1)) (hn : pc + 1 = n) (Ls' : Array Slot) (hl : storeLocals Ls k.val (.int v) = some Ls') (k : Go p e below Nd Q T (mkF m n Ls' st)) : Go p e below Nd Q T (mkF m pc Ls (.int v :: st)) := by
  subst hn; exact Go.stp (fun t q => XS.istoreN X.here hx rfl hd rfl hl q) k
theorem g_istore (X : Stand p l e R s m args below meth c T locs cells slots) (hx : p.tables.exec = Jvm.exec) {k : Nat} {v : Int32} (hd : decode c.code pc = .ok (.istore k, 2)) (hn : pc + 2 = n) (Ls' : Array Slot) (hl : storeLocals Ls k (.int v) = some Ls') (k : Go p e below Nd Q T (mkF m n Ls' st)) : Go p e below Nd Q T (mkF m pc Ls (.int v :: st)) := by
  subst hn; exact Go.stp (fun t q => XS.istore X.here hx rfl hd rfl hl q) k
theorem g_lloadN (X : Stand p l e R s m args below meth c T locs cells slots) (hx : p.tables.exec = Jvm.exec) {k : Fin 4} {v : Int64} (hd : decode c.code pc = .ok (.lload_n k, 1)) (hn : pc + 1 = n) (hl : Ls[k.val]? = some (.val (.long v))) (k : Go p e below Nd Q T (mkF m n Ls (.long v :: st))) : Go p e below Nd Q T (mkF m pc Ls st) := by
  subst hn; exact Go.stp (fun t q => XT.lloadN X.here hx rfl hd hl q) k
theorem g_lload (X : Stand p l e R s m args below meth c T locs cells slots) (hx : p.tables.exec = Jvm.exec) {k : Nat} {v : Int64} (hd : decode c.code pc = .ok (.lload k, 2)) (hn : pc + 2 = n) (hl : Ls[k]? = some (.val (.long v))) (k : Go p e below Nd Q T (mkF m n Ls (.long v :: st))) : Go p e below Nd Q T (mkF m pc Ls st) := by
  subst hn; exact Go.stp (fun t q => XT.lload X.here hx rfl hd hl q) k
theorem g_lstoreN (X : Stand p l e R s m args below meth c T locs cells slots) (hx : p.tables.exec = Jvm.exec) {k : Fin 4} {v : Int64} (hd : decode c.code pc = .ok (.lstore_n k, 1)) (hn : pc + 1 = n) (Ls' : Array Slot) (hl : storeLocals Ls k.val (.long v) = some Ls') (k : Go p e below Nd Q T (mkF m n Ls' st)) : Go p e below Nd Q T (mkF m pc Ls (.long v :: st)) := by
  subst hn; exact Go.stp (fun t q => XT.lstoreN X.here hx rfl hd rfl hl q) k
theorem g_lstore (X : Stand p l e R s m args below meth c T locs cells slots) (hx : p.tables.exec = Jvm.exec) {k : Nat} {v : Int64} (hd : decode c.code pc = .ok (.lstore k, 2)) (hn : pc + 2 = n) (Ls' : Array Slot) (hl : storeLocals Ls k (.long v) = some Ls') (k : Go p e below Nd Q T (mkF m n Ls' st)) : Go p e below Nd Q T (mkF m pc Ls (.long v :: st)) := by
  subst hn; exact Go.stp (fun t q => XT.lstore X.here hx rfl hd rfl hl q) k
theorem g_astoreN (X : Stand p l e R s m args below meth c T locs cells slots) (hx : p.tables.exec = Jvm.exec) {k : Fin 4} {v : Value} (hd : decode c.code pc = .ok (.astore_n k, 1)) (hn : pc + 1 = n) (hv : v.isRef = true) (Ls' : Array Slot) (hl : storeLocals Ls k.val v = some Ls') (k : Go p e below Nd Q T (mkF m n Ls' st)) : Go p e below Nd Q T (mkF m pc Ls (v :: st)) := by
  subst hn; exact Go.stp (fun t q => XS.astoreN X.here hx rfl hd rfl hv hl q) k
theorem g_astore (X : Stand p l e R s m args below meth c T locs cells slots) (hx : p.tables.exec = Jvm.exec) {k : Nat} {v : Value} (hd : decode c.code pc = .ok (.astore k, 2)) (hn : pc + 2 = n) (hv : v.isRef = true) (Ls' : Array Slot) (hl : storeLocals Ls k v = some Ls') (k : Go p e below Nd Q T (mkF m n Ls' st)) : Go p e below Nd Q T (mkF m pc Ls (v :: st)) := by
  subst hn; exact Go.stp (fun t q => XS.astore X.here hx rfl hd rfl hv hl q) k
theorem g_iconst (X : Stand p l e R s m args below meth c T locs cells slots) (hx : p.tables.exec = Jvm.exec) {i : Int} (v : Int32) (hd : decode c.code pc = .ok (.iconst i, 1)) (hn : pc + 1 = n) (hv : Int32.ofInt i = v) (k : Go p e below Nd Q T (mkF m n Ls (.int v :: st))) : Go p e below Nd Q T (mkF m pc Ls st) := by
  subst hn hv; exact Go.stp (fun t q => XS.iconst X.here hx rfl hd q) k
theorem g_bipush (X : Stand p l e R s m args below meth c T locs cells slots) (hx : p.tables.exec = Jvm.exec) {i : Int} (v : Int32) (hd : decode c.code pc = .ok (.bipush i, 2)) (hn : pc + 2 = n) (hv : (Int8.ofInt i).toInt32 = v) (k : Go p e below Nd Q T (mkF m n Ls (.int v :: st))) : Go p e below Nd Q T (mkF m pc Ls st) := by
  subst hn hv; exact Go.stp (fun t q => XS.bipush X.here hx rfl hd q) k
theorem g_sipush (X : Stand p l e R s m args below meth c T locs cells slots) (hx : p.tables.exec = Jvm.exec) {i : Int} (v : Int32) (hd : decode c.code pc = .ok (.sipush i, 3)) (hn : pc + 3 = n) (hv : (Int16.ofInt i).toInt32 = v) (k : Go p e below Nd Q T (mkF m n Ls (.int v :: st))) : Go p e below Nd Q T (mkF m pc Ls st) := by
  subst hn hv; exact Go.stp (fun t q => XS.sipush X.here hx rfl hd q) k
theorem g_lconst (X : Stand p l e R s m args below meth c T locs cells slots) (hx : p.tables.exec = Jvm.exec) {j : Fin 2} (v : Int64) (hd : decode c.code pc = .ok (.lconst j, 1)) (hn : pc + 1 = n) (hv : Int64.ofNat j = v) (k : Go p e below Nd Q T (mkF m n Ls (.long v :: st))) : Go p e below Nd Q T (mkF m pc Ls st) := by
  subst hn hv; exact Go.stp (fun t q => XT.lconst X.here hx rfl hd q) k
theorem g_aconstNull (X : Stand p l e R s m args below meth c T locs cells slots) (hx : p.tables.exec = Jvm.exec) (hd : decode c.code pc = .ok (.aconst_null, 1)) (hn : pc + 1 = n) (k : Go p e below Nd Q T (mkF m n Ls (.null :: st))) : Go p e below Nd Q T (mkF m pc Ls st) := by
  subst hn; exact Go.stp (fun t q => XS.aconstNull X.here hx rfl hd q) k
theorem g_iadd (X : Stand p l e R s m args below meth c T locs cells slots) (hx : p.tables.exec = Jvm.exec) {x y : Int32} (hd : decode c.code pc = .ok (.iadd, 1)) (hn : pc + 1 = n) (k : Go p e below Nd Q T (mkF m n Ls (.int (x + y) :: st))) : Go p e below Nd Q T (mkF m pc Ls (.int y :: .int x :: st)) := by
  subst hn; exact Go.stp (fun t q => XS.iadd X.here hx rfl hd rfl q) k
theorem g_isub (X : Stand p l e R s m args below meth c T locs cells slots) (hx : p.tables.exec = Jvm.exec) {x y : Int32} (hd : decode c.code pc = .ok (.isub, 1)) (hn : pc + 1 = n) (k : Go p e below Nd Q T (mkF m n Ls (.int (x - y) :: st))) : Go p e below Nd Q T (mkF m pc Ls (.int y :: .int x :: st)) := by
  subst hn; exact Go.stp (fun t q => XS.isub X.here hx rfl hd rfl q) k
theorem g_imul (X : Stand p l e R s m args below meth c T locs cells slots) (hx : p.tables.exec = Jvm.exec) {x y : Int32} (hd : decode c.code pc = .ok (.imul, 1)) (hn : pc + 1 = n) (k : Go p e below Nd Q T (mkF m n Ls (.int (x * y) :: st))) : Go p e below Nd Q T (mkF m pc Ls (.int y :: .int x :: st)) := by
  subst hn; exact Go.stp (fun t q => XS.imul X.here hx rfl hd rfl q) k
theorem g_iand (X : Stand p l e R s m args below meth c T locs cells slots) (hx : p.tables.exec = Jvm.exec) {x y : Int32} (hd : decode c.code pc = .ok (.iand, 1)) (hn : pc + 1 = n) (k : Go p e below Nd Q T (mkF m n Ls (.int (x &&& y) :: st))) : Go p e below Nd Q T (mkF m pc Ls (.int y :: .int x :: st)) := by
  subst hn; exact Go.stp (fun t q => XS.iand X.here hx rfl hd rfl q) k
theorem g_ior (X : Stand p l e R s m args below meth c T locs cells slots) (hx : p.tables.exec = Jvm.exec) {x y : Int32} (hd : decode c.code pc = .ok (.ior, 1)) (hn : pc + 1 = n) (k : Go p e below Nd Q T (mkF m n Ls (.int (x ||| y) :: st))) : Go p e below Nd Q T (mkF m pc Ls (.int y :: .int x :: st)) := by
  subst hn; exact Go.stp (fun t q => XT.ior X.here hx rfl hd rfl q) k
theorem g_ixor (X : Stand p l e R s m args below meth c T locs cells slots) (hx : p.tables.exec = Jvm.exec) {x y : Int32} (hd : decode c.code pc = .ok (.ixor, 1)) (hn : pc + 1 = n) (k : Go p e below Nd Q T (mkF m n Ls (.int (x ^^^ y) :: st))) : Go p e below Nd Q T (mkF m pc Ls (.int y :: .int x :: st)) := by
  subst hn; exact Go.stp (fun t q => XT.ixor X.here hx rfl hd rfl q) k
theorem g_ishl (X : Stand p l e R s m args below meth c T locs cells slots) (hx : p.tables.exec = Jvm.exec) {x y : Int32} (hd : decode c.code pc = .ok (.ishl, 1)) (hn : pc + 1 = n) (k : Go p e below Nd Q T (mkF m n Ls (.int (x <<< (y &&& 31)) :: st))) : Go p e below Nd Q T (mkF m pc Ls (.int y :: .int x :: st)) := by
  subst hn; exact Go.stp (fun t q => XT.ishl X.here hx rfl hd rfl q) k
theorem g_ishr (X : Stand p l e R s m args below meth c T locs cells slots) (hx : p.tables.exec = Jvm.exec) {x y : Int32} (hd : decode c.code pc = .ok (.ishr, 1)) (hn : pc + 1 = n) (k : Go p e below Nd Q T (mkF m n Ls (.int (x >>> (y &&& 31)) :: st))) : Go p e below Nd Q T (mkF m pc Ls (.int y :: .int x :: st)) := by
  subst hn; exact Go.stp (fun t q => XT.ishr X.here hx rfl hd rfl q) k
theorem g_iushr (X : Stand p l e R s m args below meth c T locs cells slots) (hx : p.tables.exec = Jvm.exec) {x y : Int32} (hd : decode c.code pc = .ok (.iushr, 1)) (hn : pc + 1 = n) (k : Go p e below Nd Q T (mkF m n Ls (.int (XT.ushr x y) :: st))) : Go p e below Nd Q T (mkF m pc Ls (.int y :: .int x :: st)) := by
  subst hn; exact Go.stp (fun t q => XT.iushr X.here hx rfl hd rfl q) k
theorem g_irem (X : Stand p l e R s m args below meth c T locs cells slots) (hx : p.tables.exec = Jvm.exec) {x y : Int32} (hd : decode c.code pc = .ok (.irem, 1)) (hn : pc + 1 = n) (hy : y ≠ 0) (k : Go p e below Nd Q T (mkF m n Ls (.int (x % y) :: st))) : Go p e below Nd Q T (mkF m pc Ls (.int y :: .int x :: st)) := by
  subst hn; exact Go.stp (fun t q => iremM X hx rfl hd rfl hy q) k
theorem g_ladd (X : Stand p l e R s m args below meth c T locs cells slots) (hx : p.tables.exec = Jvm.exec) {x y : Int64} (hd : decode c.code pc = .ok (.ladd, 1)) (hn : pc + 1 = n) (k : Go p e below Nd Q T (mkF m n Ls (.long (x + y) :: st))) : Go p e below Nd Q T (mkF m pc Ls (.long y :: .long x :: st)) := by
  subst hn; exact Go.stp (fun t q => XT.ladd X.here hx rfl hd rfl q) k
theorem g_lsub (X : Stand p l e R s m args below meth c T locs cells slots) (hx : p.tables.exec = Jvm.exec) {x y : Int64} (hd : decode c.code pc = .ok (.lsub, 1)) (hn : pc + 1 = n) (k : Go p e below Nd Q T (mkF m n Ls (.long (x - y) :: st))) : Go p e below Nd Q T (mkF m pc Ls (.long y :: .long x :: st)) := by
  subst hn; exact Go.stp (fun t q => XT.lsub X.here hx rfl hd rfl q) k
theorem g_lmul (X : Stand p l e R s m args below meth c T locs cells slots) (hx : p.tables.exec = Jvm.exec) {x y : Int64} (hd : decode c.code pc = .ok (.lmul, 1)) (hn : pc + 1 = n) (k : Go p e below Nd Q T (mkF m n Ls (.long (x * y) :: st))) : Go p e below Nd Q T (mkF m pc Ls (.long y :: .long x :: st)) := by
  subst hn; exact Go.stp (fun t q => XT.lmul X.here hx rfl hd rfl q) k
theorem g_land (X : Stand p l e R s m args below meth c T locs cells slots) (hx : p.tables.exec = Jvm.exec) {x y : Int64} (hd : decode c.code pc = .ok (.land, 1)) (hn : pc + 1 = n) (k : Go p e below Nd Q T (mkF m n Ls (.long (x &&& y) :: st))) : Go p e below Nd Q T (mkF m pc Ls (.long y :: .long x :: st)) := by
  subst hn; exact Go.stp (fun t q => XT.land X.here hx rfl hd rfl q) k
theorem g_ldiv (X : Stand p l e R s m args below meth c T locs cells slots) (hx : p.tables.exec = Jvm.exec) {x y : Int64} (hd : decode c.code pc = .ok (.ldiv, 1)) (hn : pc + 1 = n) (hy : y ≠ 0) (k : Go p e below Nd Q T (mkF m n Ls (.long (x / y) :: st))) : Go p e below Nd Q T (mkF m pc Ls (.long y :: .long x :: st)) := by
  subst hn; exact Go.stp (fun t q => XT.ldiv X.here hx rfl hd rfl hy q) k
theorem g_lrem (X : Stand p l e R s m args below meth c T locs cells slots) (hx : p.tables.exec = Jvm.exec) {x y : Int64} (hd : decode c.code pc = .ok (.lrem, 1)) (hn : pc + 1 = n) (hy : y ≠ 0) (k : Go p e below Nd Q T (mkF m n Ls (.long (x - (x / y) * y) :: st))) : Go p e below Nd Q T (mkF m pc Ls (.long y :: .long x :: st)) := by
  subst hn; exact Go.stp (fun t q => XT.lrem X.here hx rfl hd rfl hy q) k
theorem g_lcmp (X : Stand p l e R s m args below meth c T locs cells slots) (hx : p.tables.exec = Jvm.exec) {x y : Int64} (hd : decode c.code pc = .ok (.lcmp, 1)) (hn : pc + 1 = n) (k : Go p e below Nd Q T (mkF m n Ls (.int (XT.cmpL x y) :: st))) : Go p e below Nd Q T (mkF m pc Ls (.long y :: .long x :: st)) := by
  subst hn; exact Go.stp (fun t q => XT.lcmp X.here hx rfl hd rfl q) k
theorem g_lshr (X : Stand p l e R s m args below meth c T locs cells slots) (hx : p.tables.exec = Jvm.exec) {x : Int64} {y : Int32} (hd : decode c.code pc = .ok (.lshr, 1)) (hn : pc + 1 = n) (k : Go p e below Nd Q T (mkF m n Ls (.long (x >>> (y.toInt64 &&& 63)) :: st))) : Go p e below Nd Q T (mkF m pc Ls (.int y :: .long x :: st)) := by
  subst hn; exact Go.stp (fun t q => XT.lshr X.here hx rfl hd rfl q) k
theorem g_lushr (X : Stand p l e R s m args below meth c T locs cells slots) (hx : p.tables.exec = Jvm.exec) {x : Int64} {y : Int32} (hd : decode c.code pc = .ok (.lushr, 1)) (hn : pc + 1 = n) (k : Go p e below Nd Q T (mkF m n Ls (.long (XT.ushrL x y) :: st))) : Go p e below Nd Q T (mkF m pc Ls (.int y :: .long x :: st)) := by
  subst hn; exact Go.stp (fun t q => XT.lushr X.here hx rfl hd rfl q) k
theorem g_lneg (X : Stand p l e R s m args below meth c T locs cells slots) (hx : p.tables.exec = Jvm.exec) {x : Int64} (hd : decode c.code pc = .ok (.lneg, 1)) (hn : pc + 1 = n) (k : Go p e below Nd Q T (mkF m n Ls (.long (-x) :: st))) : Go p e below Nd Q T (mkF m pc Ls (.long x :: st)) := by
  subst hn; exact Go.stp (fun t q => XT.lneg X.here hx rfl hd rfl q) k
theorem g_i2l (X : Stand p l e R s m args below meth c T locs cells slots) (hx : p.tables.exec = Jvm.exec) {x : Int32} (hd : decode c.code pc = .ok (.i2l, 1)) (hn : pc + 1 = n) (k : Go p e below Nd Q T (mkF m n Ls (.long x.toInt64 :: st))) : Go p e below Nd Q T (mkF m pc Ls (.int x :: st)) := by
  subst hn; exact Go.stp (fun t q => XT.i2l X.here hx rfl hd rfl q) k
theorem g_l2i (X : Stand p l e R s m args below meth c T locs cells slots) (hx : p.tables.exec = Jvm.exec) {x : Int64} (hd : decode c.code pc = .ok (.l2i, 1)) (hn : pc + 1 = n) (k : Go p e below Nd Q T (mkF m n Ls (.int x.toInt32 :: st))) : Go p e below Nd Q T (mkF m pc Ls (.long x :: st)) := by
  subst hn; exact Go.stp (fun t q => XT.l2i X.here hx rfl hd rfl q) k
theorem g_i2b (X : Stand p l e R s m args below meth c T locs cells slots) (hx : p.tables.exec = Jvm.exec) {x : Int32} (hd : decode c.code pc = .ok (.i2b, 1)) (hn : pc + 1 = n) (k : Go p e below Nd Q T (mkF m n Ls (.int x.toInt8.toInt32 :: st))) : Go p e below Nd Q T (mkF m pc Ls (.int x :: st)) := by
  subst hn; exact Go.stp (fun t q => XT.i2b X.here hx rfl hd rfl q) k
theorem g_i2c (X : Stand p l e R s m args below meth c T locs cells slots) (hx : p.tables.exec = Jvm.exec) {x : Int32} (hd : decode c.code pc = .ok (.i2c, 1)) (hn : pc + 1 = n) (k : Go p e below Nd Q T (mkF m n Ls (.int x.toUInt32.toUInt16.toUInt32.toInt32 :: st))) : Go p e below Nd Q T (mkF m pc Ls (.int x :: st)) := by
  subst hn; exact Go.stp (fun t q => XT.i2c X.here hx rfl hd rfl q) k
theorem g_dup (X : Stand p l e R s m args below meth c T locs cells slots) (hx : p.tables.exec = Jvm.exec) {x : Value} (hd : decode c.code pc = .ok (.dup, 1)) (hn : pc + 1 = n) (hc : x.category = 1) (k : Go p e below Nd Q T (mkF m n Ls (x :: x :: st))) : Go p e below Nd Q T (mkF m pc Ls (x :: st)) := by
  subst hn; exact Go.stp (fun t q => XS.dup X.here hx rfl hd rfl hc q) k
theorem g_dupX1 (X : Stand p l e R s m args below meth c T locs cells slots) (hx : p.tables.exec = Jvm.exec) {x y : Value} (hd : decode c.code pc = .ok (.dup_x1, 1)) (hn : pc + 1 = n) (hc : x.category = 1) (hc' : y.category = 1) (k : Go p e below Nd Q T (mkF m n Ls (x :: y :: x :: st))) : Go p e below Nd Q T (mkF m pc Ls (x :: y :: st)) := by
  subst hn; exact Go.stp (fun t q => XT.dupX1 X.here hx rfl hd rfl hc hc' q) k
theorem g_pop (X : Stand p l e R s m args below meth c T locs cells slots) (hx : p.tables.exec = Jvm.exec) {x : Value} (hd : decode c.code pc = .ok (.pop, 1)) (hn : pc + 1 = n) (hc : x.category = 1) (k : Go p e below Nd Q T (mkF m n Ls st)) : Go p e below Nd Q T (mkF m pc Ls (x :: st)) := by
  subst hn; exact Go.stp (fun t q => XT.pop X.here hx rfl hd rfl hc q) k
theorem g_iinc (X : Stand p l e R s m args below meth c T locs cells slots) (hx : p.tables.exec = Jvm.exec) {k : Nat} {cst : Int} {x : Int32} (hd : decode c.code pc = .ok (.iinc k cst, 3)) (hn : pc + 3 = n) (hl : Ls[k]? = some (.val (.int x))) (v : Int32) (hv : x + Int32.ofInt cst = v) (Ls' : Array Slot) (hl' : storeLocals Ls k (.int v) = some Ls') (k : Go p e below Nd Q T (mkF m n Ls' st)) : Go p e below Nd Q T (mkF m pc Ls st) := by
  subst hn hv; exact Go.stp (fun t q => XS.iinc X.here hx rfl hd hl hl' q) k
theorem g_goto (X : Stand p l e R s m args below meth c T locs cells slots) (hx : p.tables.exec = Jvm.exec) {o : Int} (hd : decode c.code pc = .ok (.goto o, 3)) (ho : 0 ≤ (pc : Int) + o) (hp : ((pc : Int) + o).toNat = n) (k : Go p e below Nd Q T (mkF m n Ls st)) : Go p e below Nd Q T (mkF m pc Ls st) :=
  Go.stp (fun t q => XS.goto X.here hx rfl rfl hd ho hp q) k
/-- a branch on an int: P is what it asks -/
theorem g_if (X : Stand p l e R s m args below meth c T locs cells slots) (hx : p.tables.exec = Jvm.exec) {cd : ClassFile.Cond} {o : Int} {x : Int32} {n' : Nat} (P : Prop) [Decidable P] (hP : ifCond.holds cd x = decide P) (hd : decode c.code pc = .ok (.ifCond cd o, 3)) (ho : 0 ≤ (pc : Int) + o) (hp : ((pc : Int) + o).toNat = n) (hn : pc + 3 = n')
    (kY : P → Go p e below Nd Q T (mkF m n Ls st)) (kN : ¬ P → Go p e below Nd Q T (mkF m n' Ls st)) : Go p e below Nd Q T (mkF m pc Ls (.int x :: st)) := by
  subst hn
  by_cases q : P
  · exact Go.stp (fun t r => XS.ifYes X.here hx rfl rfl hd rfl (by rw [hP]; exact decide_eq_true q) ho hp r) (kY q)
  · exact Go.stp (fun t r => XS.ifNo X.here hx rfl hd rfl (by rw [hP]; exact decide_eq_false q) r) (kN q)
theorem g_icmp (X : Stand p l e R s m args below meth c T locs cells slots) (hx : p.tables.exec = Jvm.exec) {cd : ClassFile.Cond} {o : Int} {x y : Int32} {n' : Nat} (P : Prop) [Decidable P] (hP : if_icmp.holds cd x y = decide P) (hd : decode c.code pc = .ok (.if_icmp cd o, 3)) (ho : 0 ≤ (pc : Int) + o) (hp : ((pc : Int) + o).toNat = n) (hn : pc + 3 = n')
    (kY : P → Go p e below Nd Q T (mkF m n Ls st)) (kN : ¬ P → Go p e below Nd Q T (mkF m n' Ls st)) : Go p e below Nd Q T (mkF m pc Ls (.int y :: .int x :: st)) := by
  subst hn
  by_cases q : P
  · exact Go.stp (fun t r => XS.icmpYes X.here hx rfl rfl hd rfl (by rw [hP]; exact decide_eq_true q) ho hp r) (kY q)
  · exact Go.stp (fun t r => XS.icmpNo X.here hx rfl hd rfl (by rw [hP]; exact decide_eq_false q) r) (kN q)
theorem own_acV (cd : ACond) (x y : Value) : XT.acmp cd x y = acV cd (decide (x = y)) := by
  cases cd <;> by_cases q : x = y <;> simp [XT.acmp, acV, q]
theorem g_acmp (X : Stand p l e R s m args below meth c T locs cells slots) (hx : p.tables.exec = Jvm.exec) {cd : ACond} {o : Int} {x y : Value} {n' : Nat} (P : Prop) [Decidable P] (hP : acV cd (decide (x = y)) = decide P) (h1 : x.isRef = true) (h2 : y.isRef = true) (hd : decode c.code pc = .ok (.if_acmp cd o, 3)) (ho : 0 ≤ (pc : Int) + o) (hp : ((pc : Int) + o).toNat = n) (hn : pc + 3 = n')
    (kY : P → Go p e below Nd Q T (mkF m n Ls st)) (kN : ¬ P → Go p e below Nd Q T (mkF m n' Ls st)) : Go p e below Nd Q T (mkF m pc Ls (y :: x :: st)) := by
  subst hn
  by_cases q : P
  · exact Go.stp (fun t r => XT.acmpYes X.here hx rfl rfl hd rfl h1 h2 (by rw [own_acV, hP]; exact decide_eq_true q) ho hp r) (kY q)
  · exact Go.stp (fun t r => XT.acmpNo X.here hx rfl hd rfl h1 h2 (by rw [own_acV, hP]; exact decide_eq_false q) r) (kN q)
theorem own_ceq (x y : Int32) : if_icmp.holds .eq x y = decide (x = y) := by by_cases q : x = y <;> simp [if_icmp.holds, q]
theorem own_cne (x y : Int32) : if_icmp.holds .ne x y = decide (¬ x = y) := by by_cases q : x = y <;> simp [if_icmp.holds, q]
theorem own_clt (x y : Int32) : if_icmp.holds .lt x y = decide (x < y) := rfl
theorem own_cge (x y : Int32) : if_icmp.holds .ge x y = decide (y ≤ x) := rfl
theorem own_cgt (x y : Int32) : if_icmp.holds .gt x y = decide (y < x) := rfl
theorem own_cle (x y : Int32) : if_icmp.holds .le x y = decide (x ≤ y) := rfl
theorem own_zeq (x : Int32) : ifCond.holds .eq x = decide (x = 0) := by rw [if0]; exact own_ceq x 0
theorem own_zne (x : Int32) : ifCond.holds .ne x = decide (¬ x = 0) := by rw [if0]; exact own_cne x 0
theorem own_zlt (x : Int32) : ifCond.holds .lt x = decide (x < 0) := rfl
theorem own_zge (x : Int32) : ifCond.holds .ge x = decide (0 ≤ x) := rfl
theorem own_zgt (x : Int32) : ifCond.holds .gt x = decide (0 < x) := rfl
theorem own_zle (x : Int32) : ifCond.holds .le x = decide (x ≤ 0) := rfl
theorem own_aeq (x y : Value) : acV .eq (decide (x = y)) = decide (x = y) := rfl
theorem own_ane (x y : Value) : acV .ne (decide (x = y)) = decide (¬ x = y) := by by_cases q : x = y <;> simp [acV, q]
theorem g_ifnullNo (X : Stand p l e R s m args below meth c T locs cells slots) (hx : p.tables.exec = Jvm.exec) {o : Int} {b : Nat} (hd : decode c.code pc = .ok (.ifnull o, 3)) (hn : pc + 3 = n) (k : Go p e below Nd Q T (mkF m n Ls st)) : Go p e below Nd Q T (mkF m pc Ls (.ref b :: st)) := by
  subst hn; exact Go.stp (fun t q => XS.ifnullNo X.here hx rfl hd rfl q) k
theorem g_ifnullYes (X : Stand p l e R s m args below meth c T locs cells slots) (hx : p.tables.exec = Jvm.exec) {o : Int} (hd : decode c.code pc = .ok (.ifnull o, 3)) (ho : 0 ≤ (pc : Int) + o) (hp : ((pc : Int) + o).toNat = n) (k : Go p e below Nd Q T (mkF m n Ls st)) : Go p e below Nd Q T (mkF m pc Ls (.null :: st)) :=
  Go.stp (fun t q => XS.ifnullYes X.here hx rfl rfl hd rfl ho hp q) k
theorem g_ifnonnullYes (X : Stand p l e R s m args below meth c T locs cells slots) (hx : p.tables.exec = Jvm.exec) {o : Int} {b : Nat} (hd : decode c.code pc = .ok (.ifnonnull o, 3)) (ho : 0 ≤ (pc : Int) + o) (hp : ((pc : Int) + o).toNat = n) (k : Go p e below Nd Q T (mkF m n Ls st)) : Go p e below Nd Q T (mkF m pc Ls (.ref b :: st)) :=
  Go.stp (fun t q => XT.ifnonnullYes X.here hx rfl rfl hd rfl ho hp q) k
/-! the ends -/
theorem g_ret (X : Stand p l e R s m args below meth c T locs cells slots) (hx : p.tables.exec = Jvm.exec) {i : Instr} {t : FieldType} {w : Value} (hret : meth.sig.returnType = some t) (hlk : meth.locks = false) (hnw : narrow t w = w)
    (hi : (i = .ireturn ∧ (t = .int ∨ t = .boolean ∨ t = .byte ∨ t = .char ∨ t = .short) ∧ ∃ z, w = .int z) ∨ (i = .lreturn ∧ t = .long ∧ ∃ z, w = .long z) ∨ (i = .dreturn ∧ t = .double ∧ ∃ z, w = .double z) ∨ (i = .freturn ∧ t = .float ∧ ∃ z, w = .float z) ∨ (i = .areturn ∧ t.isReference = true ∧ w.isRef = true))
    (hd : decode c.code pc = .ok (i, 1)) (hN : ∀ t, FrameEnd s (.returned (some w)) t locs cells slots → t.heap = T.heap → Nd (.returned (some w)) t locs) (hQ : Q (some w) T.heap locs) : Go p e below Nd Q T (mkF m pc Ls (w :: st)) := by
  obtain ⟨fs, hr, hrun, hended, hW, hsame⟩ := X.leave (v := some w) (fun q => by rw [hret] at q; cases q) hlk
  exact ⟨_, _, retOut X hx hret hnw hi hd hr, hrun, hended, _, _, rfl, hQ, hN _ ⟨⟨_, rfl⟩, hW, hsame⟩ rfl⟩
theorem g_retI (X : Stand p l e R s m args below meth c T locs cells slots) (hx : p.tables.exec = Jvm.exec) {w : Int32} (hret : meth.sig.returnType = some .int) (hlk : meth.locks = false) (hd : decode c.code pc = .ok (.ireturn, 1)) (hN : ∀ t, FrameEnd s (.returned (some (.int w))) t locs cells slots → t.heap = T.heap → Nd (.returned (some (.int w))) t locs) (hQ : Q (some (.int w)) T.heap locs) : Go p e below Nd Q T (mkF m pc Ls (.int w :: st)) :=
  g_ret X hx hret hlk rfl (Or.inl ⟨rfl, Or.inl rfl, _, rfl⟩) hd hN hQ
theorem g_retJ (X : Stand p l e R s m args below meth c T locs cells slots) (hx : p.tables.exec = Jvm.exec) {w : Int64} (hret : meth.sig.returnType = some .long) (hlk : meth.locks = false) (hd : decode c.code pc = .ok (.lreturn, 1)) (hN : ∀ t, FrameEnd s (.returned (some (.long w))) t locs cells slots → t.heap = T.heap → Nd (.returned (some (.long w))) t locs) (hQ : Q (some (.long w)) T.heap locs) : Go p e below Nd Q T (mkF m pc Ls (.long w :: st)) :=
  g_ret X hx hret hlk rfl (Or.inr (Or.inl ⟨rfl, rfl, _, rfl⟩)) hd hN hQ
theorem g_retZ (X : Stand p l e R s m args below meth c T locs cells slots) (hx : p.tables.exec = Jvm.exec) {w : Int32} (hw01 : w = 0 ∨ w = 1) (hret : meth.sig.returnType = some .boolean) (hlk : meth.locks = false) (hd : decode c.code pc = .ok (.ireturn, 1)) (hN : ∀ t, FrameEnd s (.returned (some (.int w))) t locs cells slots → t.heap = T.heap → Nd (.returned (some (.int w))) t locs) (hQ : Q (some (.int w)) T.heap locs) : Go p e below Nd Q T (mkF m pc Ls (.int w :: st)) :=
  g_ret X hx hret hlk (by rcases hw01 with rfl | rfl <;> rfl) (Or.inl ⟨rfl, Or.inr (Or.inl rfl), _, rfl⟩) hd hN hQ
theorem g_retN (X : Stand p l e R s m args below meth c T locs cells slots) (hx : p.tables.exec = Jvm.exec) {w : Int32} {t : FieldType} (ht : t = .byte ∨ t = .char ∨ t = .short) (hnw : narrow t (.int w) = .int w) (hret : meth.sig.returnType = some t) (hlk : meth.locks = false) (hd : decode c.code pc = .ok (.ireturn, 1)) (hN : ∀ t, FrameEnd s (.returned (some (.int w))) t locs cells slots → t.heap = T.heap → Nd (.returned (some (.int w))) t locs) (hQ : Q (some (.int w)) T.heap locs) : Go p e below Nd Q T (mkF m pc Ls (.int w :: st)) :=
  g_ret X hx hret hlk hnw (Or.inl ⟨rfl, by rcases ht with rfl | rfl | rfl <;> simp, _, rfl⟩) hd hN hQ
theorem g_retA (X : Stand p l e R s m args below meth c T locs cells slots) (hx : p.tables.exec = Jvm.exec) {w : Value} {t : FieldType} (hret : meth.sig.returnType = some t) (ht : t.isReference = true) (hw : w.isRef = true) (hlk : meth.locks = false) (hd : decode c.code pc = .ok (.areturn, 1)) (hN : ∀ t, FrameEnd s (.returned (some w)) t locs cells slots → t.heap = T.heap → Nd (.returned (some w)) t locs) (hQ : Q (some w) T.heap locs) : Go p e below Nd Q T (mkF m pc Ls (w :: st)) :=
  g_ret X hx hret hlk (by rcases ref_cases hw with rfl | ⟨a, rfl⟩ <;> cases t <;> first | rfl | cases ht) (Or.inr (Or.inr (Or.inr (Or.inr ⟨rfl, ht, hw⟩)))) hd hN hQ
theorem g_retV (X : Stand p l e R s m args below meth c T locs cells slots) (hx : p.tables.exec = Jvm.exec) (hret : meth.sig.returnType = none) (hlk : meth.locks = false) (hd : decode c.code pc = .ok (.return_, 1)) (hN : ∀ t, FrameEnd s (.returned none) t locs cells slots → t.heap = T.heap → Nd (.returned none) t locs) (hQ : Q none T.heap locs) : Go p e below Nd Q T (mkF m pc Ls []) := by
  obtain ⟨fs, hr, hrun, hended, hW, hsame⟩ := X.leave (v := none) (fun _ => rfl) hlk
  exact ⟨_, _, X.returnOut hx hret hd hr, hrun, hended, _, _, rfl, hQ, hN _ ⟨⟨_, rfl⟩, hW, hsame⟩ rfl⟩
/-! tables and heap -/
variable {own : String} {index : Nat}
theorem g_ldcI (X : Stand p l e R s m args below meth c T locs cells slots) (hx : p.tables.exec = Jvm.exec) (hZ : Z.Warmed39 s.vm) {v : Int32} (hown : s.vm.findClass own = some m.cls) (w : (Cond.constant own index v).before a0 Z = true) (hd : decode c.code pc = .ok (.ldc index, 2)) (hn : pc + 2 = n) (k : Go p e below Nd Q T (mkF m n Ls (.int v :: st))) : Go p e below Nd Q T (mkF m pc Ls st) := by
  subst hn; exact Go.stp (fun t q => X.ldcI hx hown (mvT hZ w) rfl hd q) k
theorem g_ldc2 (X : Stand p l e R s m args below meth c T locs cells slots) (hx : p.tables.exec = Jvm.exec) (hZ : Z.Warmed39 s.vm) {v : Int64} (hown : s.vm.findClass own = some m.cls) (w : (Cond.constantLong own index v).before a0 Z = true) (hd : decode c.code pc = .ok (.ldc2_w index, 3)) (hn : pc + 3 = n) (k : Go p e below Nd Q T (mkF m n Ls (.long v :: st))) : Go p e below Nd Q T (mkF m pc Ls st) := by
  subst hn; exact Go.stp (fun t q => X.ldc2J hx hown (mvT hZ w) rfl hd q) k
theorem g_getF (X : Stand p l e R s m args below meth c T locs cells slots) (hx : p.tables.exec = Jvm.exec) (hZ : Z.Warmed39 s.vm) {O f d : String} (hown : s.vm.findClass own = some m.cls) (w : (Cond.fieldLink own index O f d).before a0 Z = true) (eT : T.heap = h) {a : Nat} {v : Value} (F : Fld Z h a O f d v) (hd : decode c.code pc = .ok (.getfield index, 3)) (hn : pc + 3 = n)
    (k : ∀ T', Stand p l e R s m args below meth c T' locs cells slots → T'.heap = h → Go p e below Nd Q T' (mkF m n Ls (v :: st))) : Go p e below Nd Q T (mkF m pc Ls (.ref a :: st)) := by
  subst hn
  obtain ⟨T1, X1, e1, st1⟩ := getF X hx hZ hown (host := "") (Or.inl w) Via.refl eT F (g := mkF m pc Ls (.ref a :: st)) rfl rfl hd
  exact Go.stp st1 (k T1 X1 e1)
theorem g_getS (X : Stand p l e R s m args below meth c T locs cells slots) (hx : p.tables.exec = Jvm.exec) (hZ : Z.Warmed39 s.vm) {O f d : String} (hown : s.vm.findClass own = some m.cls) (w : (Cond.fieldLink own index O f d).before a0 Z = true) (eT : T.heap = h) {v : Value} (F : Sta Z h O f d v) (hd : decode c.code pc = .ok (.getstatic index, 3)) (hn : pc + 3 = n)
    (k : ∀ T', Stand p l e R s m args below meth c T' locs cells slots → T'.heap = h → Go p e below Nd Q T' (mkF m n Ls (v :: st))) : Go p e below Nd Q T (mkF m pc Ls st) := by
  subst hn
  obtain ⟨T1, X1, e1, st1⟩ := getS X hx hZ (host := "") hown w Via.refl eT F (g := mkF m pc Ls st) rfl hd
  exact Go.stp st1 (k T1 X1 e1)
theorem g_putF (X : Stand p l e R s m args below meth c T locs cells slots) (hx : p.tables.exec = Jvm.exec) (hZ : Z.Warmed39 s.vm) {O f d K : String} {kk : Nat} {ty : FieldType} (hown : s.vm.findClass own = some m.cls) (w : (Cond.fieldLink own index O f d).before a0 Z = true) (eT : T.heap = h) {a : Nat} {v old : Value} (F : Fld Z h a O f d old) (E : Exa Z h a K)
    (L : (Cond.lays K O f d).before a0 Z = true ∨ ((Cond.laysFinal K O f d).before a0 Z = true ∧ own = O ∧ meth.name = "<init>")) (wi : (Cond.instantiable K kk).before a0 Z = true) (hty : parseFieldDescriptor d = some ty) (hnw : narrow ty v = v) (hf : fits ty v = true) (hd : decode c.code pc = .ok (.putfield index, 3)) (hn : pc + 3 = n)
    (k : ∀ T' h', Stand p l e R s m args below meth c T' (locs ++ [⟨a, Jvm.RoadKit.slotOf Z O f d⟩]) cells slots → T'.heap = h' → Wr h h' a (Jvm.RoadKit.slotOf Z O f d) v → Go p e below Nd Q T' (mkF m n Ls st)) : Go p e below Nd Q T (mkF m pc Ls (v :: .ref a :: st)) := by
  subst hn
  obtain ⟨T1, h1, X1, e1, W1, st1⟩ := putF X hx hZ hown (host := "") (Or.inl w) Via.refl eT F E L wi hty hnw hf (g := mkF m pc Ls (v :: .ref a :: st)) rfl rfl hd
  exact Go.stp st1 (k T1 h1 X1 e1 W1)
theorem g_new (X : Stand p l e R s m args below meth c T locs cells slots) (hx : p.tables.exec = Jvm.exec) (hZ : Z.Warmed39 s.vm) {K : String} {nn : Nat} (hown : s.vm.findClass own = some m.cls) (w : (Cond.classLink own index K).before a0 Z = true) (wi : (Cond.instantiable K nn).before a0 Z = true) (wz : (Cond.initialized K).before a0 Z = true) (eT : T.heap = h) (hd : decode c.code pc = .ok (.new index, 3)) (hn : pc + 3 = n) (hc : cells + 1 ≤ R.cells) (hl : slots + nn ≤ R.slots)
    (k : ∀ T' h' a, Stand p l e R s m args below meth c T' locs (cells + 1) (slots + nn) → T'.heap = h' → a = h.size → Ext h h' → Exa Z h' a K → (∀ {O f d : String} {ty : FieldType}, Laid Z a0 K O f d → parseFieldDescriptor d = some ty → Fld Z h' a O f d (defaultValue ty)) → Go p e below Nd Q T' (mkF m n Ls (.ref a :: st))) : Go p e below Nd Q T (mkF m pc Ls st) := by
  subst hn
  obtain ⟨T1, h1, X1, e1, E1, A1, D1, -, st1⟩ := newO X hx hZ hown w wi wz eT (g := mkF m pc Ls st) rfl hd hc hl
  exact Go.stp st1 (k T1 h1 h.size X1 e1 rfl E1 A1 D1)
theorem g_cast (X : Stand p l e R s m args below meth c T locs cells slots) (hx : p.tables.exec = Jvm.exec) (hZ : Z.Warmed39 s.vm) {K : String} (hown : s.vm.findClass own = some m.cls) (w : (Cond.classLink own index K).before a0 Z = true) (eT : T.heap = h) {a : Nat} (F : Ins Z h a K true) (hd : decode c.code pc = .ok (.checkcast index, 3)) (hn : pc + 3 = n)
    (k : ∀ T', Stand p l e R s m args below meth c T' locs cells slots → T'.heap = h → Go p e below Nd Q T' (mkF m n Ls (.ref a :: st))) : Go p e below Nd Q T (mkF m pc Ls (.ref a :: st)) := by
  subst hn
  obtain ⟨T1, X1, e1, st1⟩ := castY X hx hZ hown w eT F (g := mkF m pc Ls (.ref a :: st)) rfl rfl hd
  exact Go.stp st1 (k T1 X1 e1)
theorem g_inst (X : Stand p l e R s m args below meth c T locs cells slots) (hx : p.tables.exec = Jvm.exec) (hZ : Z.Warmed39 s.vm) {K : String} (hown : s.vm.findClass own = some m.cls) (w : (Cond.classLink own index K).before a0 Z = true) (eT : T.heap = h) {a : Nat} (F : Ins Z h a K true) (hd : decode c.code pc = .ok (.instanceof index, 3)) (hn : pc + 3 = n)
    (k : ∀ T', Stand p l e R s m args below meth c T' locs cells slots → T'.heap = h → Go p e below Nd Q T' (mkF m n Ls (.int 1 :: st))) : Go p e below Nd Q T (mkF m pc Ls (.ref a :: st)) := by
  subst hn
  obtain ⟨T1, X1, e1, st1⟩ := instY X hx hZ hown w eT F (g := mkF m pc Ls (.ref a :: st)) rfl rfl hd
  exact Go.stp st1 (k T1 X1 e1)
/-! calls by contract -/
variable {y z : MethodName} {bytes : ByteArray} {maxL : Nat} {ret : Option FieldType} {rm : Room} {Qc : Option Value → Heap → List Loc → Prop} {ps : List FieldType} {rt : Option FieldType}
/-- a callee's contract over the heap h, with these arguments -/
abbrev OMet (l : Launch) (Z : State) (y : MethodName) (bytes : ByteArray) (maxL : Nat) (ret : Option FieldType) (ws : List Cond) (rm : Room) (as' : Array Value) (h : Heap) (Qc : Option Value → Heap → List Loc → Prop) : Prop :=
  MetFree l y (head1 (Cond.code y bytes maxL ret :: ws) rm) (fun a U => a = as' ∧ Z.Warmed39 U.vm ∧ U.heap = h) (fun _ _ _ _ _ => True) (fun _ U o U' => ∃ v L, o = .returned v ∧ Qc v U'.heap L ∧ FrameEnd U o U' L rm.cells rm.slots)
theorem own_body {ws : List Cond} {as' : Array Value} (hpn : plainFor y = true) (hef : ∀ m, entryFrame m as' maxL = mkF m 0 Ls [])
    (H : ∀ (p : Program) (e : Env) (s : State) (m : MethodId) (below : List Frame) (meth : Method) (c : Code) (s₁ : State), Stand p l e rm s m as' below meth c s₁ [] 0 0 → p.tables.exec = Jvm.exec → c.code = bytes → c.maxLocals = maxL → s.vm.findClass y.cls = some m.cls → meth.name = y.name → meth.sig.returnType = ret → meth.locks = false → Z.Warmed39 s.vm → s₁.heap = h → Go p e below (Fe s rm.cells rm.slots) Qc s₁ (mkF m 0 Ls [])) :
    OMet l Z y bytes maxL ret ws rm as' h Qc := by
  refine MetFree.of_bodySF hpn hisR ?_
  intro p e s m args below meth c s₁ Bd hml0 hP hK
  obtain ⟨rfl, hZ, hh⟩ := hP
  obtain ⟨s₂, o, h1, h2, h3, h4⟩ := H p e s m below meth c s₁ (Stand.of_body Bd) Bd.exec Bd.bytes hml0 (findClass_of_methodNamed Bd.named) (name_of_methodNamed Bd.named Bd.method).1 Bd.returns (BodyLoose.notSynchronized Bd) hZ (by rw [← hh, Bd.state]; rfl)
  exact ⟨s₂, o, castTop (hef m) h1, h2, h3, h4⟩
theorem g_callS (X : Stand p l e R s m args below meth c T locs cells slots) (hx : p.tables.exec = Jvm.exec) (hZ : Z.Warmed39 s.vm) (hown : s.vm.findClass own = some m.cls) (eT : T.heap = h) (w1 : (Cond.methodLink own index y).before a0 Z = true) (w2 : (Cond.static y).before a0 Z = true) (w3 : (Cond.initialized y.cls).before a0 Z = true) (w4 : (Cond.code y bytes maxL ret).before a0 Z = true)
    (hy : y.cls ≠ "java/lang/invoke/MethodHandle" ∧ y.cls ≠ "java/lang/invoke/VarHandle") (as' : List Value) (hM : OMet l Z y bytes maxL ret [] rm as'.toArray h Qc) (hpd : parseMethodDescriptor y.desc = some ⟨ps, rt⟩) (hlen : as'.length = ps.length) (hd : decode c.code pc = .ok (.invokestatic index, 3)) (hn : pc + 3 = n) (hsize : Ls.size = c.maxLocals)
    (hf : rm.frames + 1 ≤ R.frames) (W : Nat) (hW : (st.map fun v => v.category).sum ≤ W) (hl : W + (maxL + 11) + rm.locals ≤ R.locals) (hc : cells + rm.cells ≤ R.cells) (hs : slots + rm.slots ≤ R.slots)
    (k : ∀ T' h' v L, Stand p l e R s m args below meth c T' (locs ++ L) (cells + rm.cells) (slots + rm.slots) → T'.heap = h' → Qc v h' L → Go p e below Nd Q T' (mkF m n Ls (v.toList ++ st))) : Go p e below Nd Q T (mkF m pc Ls (as'.reverse ++ st)) := by
  subst hn
  obtain ⟨v, _, ⟨T1, L1, k1, n1⟩, -, X1, ⟨L, hQ1, l1, y1, z1⟩, st1⟩ := Jvm.LawKit.callS X hx (y := y) hown (mvT hZ w1) (mvT hZ w2) (mvT hZ w3) (mvT hZ w4) hy (backOf (W := W) hM hZ w4 w3 hf hl) (g := mkF m pc Ls (as'.reverse ++ st)) rfl hsize (argsL := as') (rest := st) (lenOf hpd hlen) rfl (by show 2 * 0 + _ ≤ _; omega) hd (fun _ _ => ⟨rfl, eT, hc, hs⟩)
  dsimp only [Pt.U, Pt.locs, Pt.cells, Pt.slots] at X1 l1 y1 z1 st1 hQ1
  subst l1 y1 z1
  exact Go.stp st1 (k T1 _ v L X1 rfl hQ1)
/-- a callee that returns w and changes nothing -/
def Pu (w : Value) (h0 : Heap) (v : Option Value) (h : Heap) (L : List Loc) : Prop := v = some w ∧ L = [] ∧ h = h0
theorem g_callSP (X : Stand p l e R s m args below meth c T locs cells slots) (hx : p.tables.exec = Jvm.exec) (hZ : Z.Warmed39 s.vm) (hown : s.vm.findClass own = some m.cls) (eT : T.heap = h) (w1 : (Cond.methodLink own index y).before a0 Z = true) (w2 : (Cond.static y).before a0 Z = true) (w3 : (Cond.initialized y.cls).before a0 Z = true) (w4 : (Cond.code y bytes maxL ret).before a0 Z = true)
    (hy : y.cls ≠ "java/lang/invoke/MethodHandle" ∧ y.cls ≠ "java/lang/invoke/VarHandle") (as' : List Value) {w : Value} (hM : OMet l Z y bytes maxL ret [] rm as'.toArray h (Pu w h)) (hpd : parseMethodDescriptor y.desc = some ⟨ps, rt⟩) (hlen : as'.length = ps.length) (hd : decode c.code pc = .ok (.invokestatic index, 3)) (hn : pc + 3 = n) (hsize : Ls.size = c.maxLocals)
    (hf : rm.frames + 1 ≤ R.frames) (W : Nat) (hW : (st.map fun v => v.category).sum ≤ W) (hl : W + (maxL + 11) + rm.locals ≤ R.locals) (hc : cells + rm.cells ≤ R.cells) (hs : slots + rm.slots ≤ R.slots)
    (k : ∀ T', Stand p l e R s m args below meth c T' locs (cells + rm.cells) (slots + rm.slots) → T'.heap = h → Go p e below Nd Q T' (mkF m n Ls (w :: st))) : Go p e below Nd Q T (mkF m pc Ls (as'.reverse ++ st)) :=
  g_callS X hx hZ hown eT w1 w2 w3 w4 hy as' hM hpd hlen hd hn hsize hf W hW hl hc hs fun T' h' v L X' e' q => by
    obtain ⟨rfl, rfl, rfl⟩ := q
    rw [List.append_nil] at X'
    exact k T' X' e'
/-- a callee that returns nothing and changes nothing -/
def Pv (h0 : Heap) (v : Option Value) (h : Heap) (L : List Loc) : Prop := v = none ∧ L = [] ∧ h = h0
theorem g_callSV (X : Stand p l e R s m args below meth c T locs cells slots) (hx : p.tables.exec = Jvm.exec) (hZ : Z.Warmed39 s.vm) (hown : s.vm.findClass own = some m.cls) (eT : T.heap = h) (w1 : (Cond.methodLink own index y).before a0 Z = true) (w2 : (Cond.static y).before a0 Z = true) (w3 : (Cond.initialized y.cls).before a0 Z = true) (w4 : (Cond.code y bytes maxL ret).before a0 Z = true)
    (hy : y.cls ≠ "java/lang/invoke/MethodHandle" ∧ y.cls ≠ "java/lang/invoke/VarHandle") (as' : List Value) (hM : OMet l Z y bytes maxL ret [] rm as'.toArray h (Pv h)) (hpd : parseMethodDescriptor y.desc = some ⟨ps, rt⟩) (hlen : as'.length = ps.length) (hd : decode c.code pc = .ok (.invokestatic index, 3)) (hn : pc + 3 = n) (hsize : Ls.size = c.maxLocals)
    (hf : rm.frames + 1 ≤ R.frames) (W : Nat) (hW : (st.map fun v => v.category).sum ≤ W) (hl : W + (maxL + 11) + rm.locals ≤ R.locals) (hc : cells + rm.cells ≤ R.cells) (hs : slots + rm.slots ≤ R.slots)
    (k : ∀ T', Stand p l e R s m args below meth c T' locs (cells + rm.cells) (slots + rm.slots) → T'.heap = h → Go p e below Nd Q T' (mkF m n Ls st)) : Go p e below Nd Q T (mkF m pc Ls (as'.reverse ++ st)) :=
  g_callS X hx hZ hown eT w1 w2 w3 w4 hy as' hM hpd hlen hd hn hsize hf W hW hl hc hs fun T' h' v L X' e' q => by
    obtain ⟨rfl, rfl, rfl⟩ := q
    rw [List.append_nil] at X'
    exact k T' X' e'
theorem g_callI (X : Stand p l e R s m args below meth c T locs cells slots) (hx : p.tables.exec = Jvm.exec) (hZ : Z.Warmed39 s.vm) (hown : s.vm.findClass own = some m.cls) (eT : T.heap = h) (hy1 : y.name = "<init>") (w1 : (Cond.methodLink own index y).before a0 Z = true) (w2 : (Cond.instanceMethod y).before a0 Z = true) (w3 : (Cond.initialized y.cls).before a0 Z = true) (w4 : (Cond.code y bytes maxL none).before a0 Z = true)
    (hy : y.cls ≠ "java/lang/invoke/MethodHandle" ∧ y.cls ≠ "java/lang/invoke/VarHandle") (a : Nat) (as' : List Value) (hM : OMet l Z y bytes maxL none [] rm (.ref a :: as').toArray h Qc) (hpd : parseMethodDescriptor y.desc = some ⟨ps, rt⟩) (hlen : as'.length = ps.length) (hd : decode c.code pc = .ok (.invokespecial index, 3)) (hn : pc + 3 = n) (hsize : Ls.size = c.maxLocals)
    (hf : rm.frames + 1 ≤ R.frames) (W : Nat) (hW : (st.map fun v => v.category).sum ≤ W) (hl : W + (maxL + 11) + rm.locals ≤ R.locals) (hc : cells + rm.cells ≤ R.cells) (hs : slots + rm.slots ≤ R.slots)
    (k : ∀ T' h' v L, Stand p l e R s m args below meth c T' (locs ++ L) (cells + rm.cells) (slots + rm.slots) → T'.heap = h' → Qc v h' L → Go p e below Nd Q T' (mkF m n Ls (v.toList ++ st))) : Go p e below Nd Q T (mkF m pc Ls (as'.reverse ++ .ref a :: st)) := by
  subst hn
  obtain ⟨v, _, ⟨T1, L1, k1, n1⟩, -, X1, ⟨L, hQ1, l1, y1, z1⟩, st1⟩ := X.specialBack hx (y := y) hy1 hown (mvT hZ w1) (mvT hZ w2) (mvT hZ w4) hy (backOf (W := W) hM hZ w4 w3 hf hl) (g := mkF m pc Ls (as'.reverse ++ .ref a :: st)) rfl hsize (Steps.refl _) (a := a) (argsL := as') (rest := st) (lenOf hpd hlen) rfl (by show 2 * 0 + _ ≤ _; omega) hd (fun _ _ => ⟨rfl, eT, hc, hs⟩)
  dsimp only [Pt.U, Pt.locs, Pt.cells, Pt.slots] at X1 l1 y1 z1 st1 hQ1
  subst l1 y1 z1
  exact Go.tr st1 (k T1 _ v L X1 rfl hQ1)
theorem g_callV (X : Stand p l e R s m args below meth c T locs cells slots) (hx : p.tables.exec = Jvm.exec) (hZ : Z.Warmed39 s.vm) (hown : s.vm.findClass own = some m.cls) (eT : T.heap = h) {K : String} (w1 : (Cond.methodLink own index y).before a0 Z = true) (w2 : (Cond.declares y).before a0 Z = true) (hnf : NotFace s y) (w5 : (Cond.selects K y z).before a0 Z = true) (w6 : (Cond.instanceMethod z).before a0 Z = true) (w3 : (Cond.initialized z.cls).before a0 Z = true) (w4 : (Cond.code z bytes maxL ret).before a0 Z = true)
    (hy : y.cls ≠ "java/lang/invoke/MethodHandle" ∧ y.cls ≠ "java/lang/invoke/VarHandle") (a : Nat) (E : Exa Z h a K) (as' : List Value) (hM : OMet l Z z bytes maxL ret [] rm (.ref a :: as').toArray h Qc) (hpd : parseMethodDescriptor y.desc = some ⟨ps, rt⟩) (hlen : as'.length = ps.length) (hd : decode c.code pc = .ok (.invokevirtual index, 3)) (hn : pc + 3 = n) (hsize : Ls.size = c.maxLocals)
    (hf : rm.frames + 1 ≤ R.frames) (W : Nat) (hW : (st.map fun v => v.category).sum ≤ W) (hl : W + (maxL + 11) + rm.locals ≤ R.locals) (hc : cells + rm.cells ≤ R.cells) (hs : slots + rm.slots ≤ R.slots)
    (k : ∀ T' h' v L, Stand p l e R s m args below meth c T' (locs ++ L) (cells + rm.cells) (slots + rm.slots) → T'.heap = h' → Qc v h' L → Go p e below Nd Q T' (mkF m n Ls (v.toList ++ st))) : Go p e below Nd Q T (mkF m pc Ls (as'.reverse ++ .ref a :: st)) := by
  subst hn
  obtain ⟨cq, kq, qa, qb, qc⟩ := isOf hZ eT E
  obtain ⟨v, _, ⟨T1, L1, k1, n1⟩, -, X1, ⟨L, hQ1, l1, y1, z1⟩, st1⟩ := X.virtualBack hx (y := y) (z := z) hown (mvT hZ w1) (mvT hZ w2) hnf (mvT hZ w5) (mvT hZ w6) hy (backOf (W := W) hM hZ w4 w3 hf hl) qa qc (g := mkF m pc Ls (as'.reverse ++ .ref a :: st)) rfl hsize (Steps.refl _) (argsL := as') (rest := st) (lenOf hpd hlen) rfl (by show 2 * 0 + _ ≤ _; omega) hd (fun _ _ => ⟨rfl, eT, hc, hs⟩)
  dsimp only [Pt.U, Pt.locs, Pt.cells, Pt.slots] at X1 l1 y1 z1 st1 hQ1
  subst l1 y1 z1
  exact Go.tr st1 (k T1 _ v L X1 rfl hQ1)
theorem g_callVP (X : Stand p l e R s m args below meth c T locs cells slots) (hx : p.tables.exec = Jvm.exec) (hZ : Z.Warmed39 s.vm) (hown : s.vm.findClass own = some m.cls) (eT : T.heap = h) {K : String} (w1 : (Cond.methodLink own index y).before a0 Z = true) (w2 : (Cond.declares y).before a0 Z = true) (hnf : NotFace s y) (w5 : (Cond.selects K y z).before a0 Z = true) (w6 : (Cond.instanceMethod z).before a0 Z = true) (w3 : (Cond.initialized z.cls).before a0 Z = true) (w4 : (Cond.code z bytes maxL ret).before a0 Z = true)
    (hy : y.cls ≠ "java/lang/invoke/MethodHandle" ∧ y.cls ≠ "java/lang/invoke/VarHandle") (a : Nat) (E : Exa Z h a K) (as' : List Value) {w : Value} (hM : OMet l Z z bytes maxL ret [] rm (.ref a :: as').toArray h (Pu w h)) (hpd : parseMethodDescriptor y.desc = some ⟨ps, rt⟩) (hlen : as'.length = ps.length) (hd : decode c.code pc = .ok (.invokevirtual index, 3)) (hn : pc + 3 = n) (hsize : Ls.size = c.maxLocals)
    (hf : rm.frames + 1 ≤ R.frames) (W : Nat) (hW : (st.map fun v => v.category).sum ≤ W) (hl : W + (maxL + 11) + rm.locals ≤ R.locals) (hc : cells + rm.cells ≤ R.cells) (hs : slots + rm.slots ≤ R.slots)
    (k : ∀ T', Stand p l e R s m args below meth c T' locs (cells + rm.cells) (slots + rm.slots) → T'.heap = h → Go p e below Nd Q T' (mkF m n Ls (w :: st))) : Go p e below Nd Q T (mkF m pc Ls (as'.reverse ++ .ref a :: st)) :=
  g_callV X hx hZ hown eT w1 w2 hnf w5 w6 w3 w4 hy a E as' hM hpd hlen hd hn hsize hf W hW hl hc hs fun T' h' v L X' e' q => by
    obtain ⟨rfl, rfl, rfl⟩ := q
    rw [List.append_nil] at X'
    exact k T' X' e'
theorem own_pad {C' S' : Nat} (X : Stand p l e R s m args below meth c T locs cells slots) (h1 : cells ≤ C') (h2 : slots ≤ S') : Stand p l e R s m args below meth c T locs C' S' :=
  ⟨X.admits, X.cas, X.clock, X.frames, X.room, X.hears, X.method, X.code, X.here, X.tail, X.warmed, X.limits, X.bytes, X.same.mono h1 h2⟩
/-- a private method, called by invokevirtual; wu: any method of the same class that its objects select (so the class is no interface) -/
theorem g_callP (X : Stand p l e R s m args below meth c T locs cells slots) (hx : p.tables.exec = Jvm.exec) (hZ : Z.Warmed39 s.vm) (hown : s.vm.findClass own = some m.cls) (eT : T.heap = h) {u : MethodName} (hu : u.cls = y.cls) (w1 : (Cond.methodLink own index y).before a0 Z = true) (w2 : (Cond.instanceMethod y).before a0 Z = true) (wp : (Cond.privateMethod y).before a0 Z = true) (wu : (Cond.selects u.cls u u).before a0 Z = true) (w3 : (Cond.initialized y.cls).before a0 Z = true) (w4 : (Cond.code y bytes maxL ret).before a0 Z = true)
    (hy : y.cls ≠ "java/lang/invoke/MethodHandle" ∧ y.cls ≠ "java/lang/invoke/VarHandle") (a : Nat) {K : String} (E : Exa Z h a K) (as' : List Value) (hM : OMet l Z y bytes maxL ret [] rm (.ref a :: as').toArray h Qc) (hpd : parseMethodDescriptor y.desc = some ⟨ps, rt⟩) (hlen : as'.length = ps.length) (hd : decode c.code pc = .ok (.invokevirtual index, 3)) (hn : pc + 3 = n) (hsize : Ls.size = c.maxLocals)
    (hf : rm.frames + 1 ≤ R.frames) (W : Nat) (hW : (st.map fun v => v.category).sum ≤ W) (hl : W + (maxL + 11) + rm.locals ≤ R.locals) (hc : cells + rm.cells ≤ R.cells) (hs : slots + rm.slots ≤ R.slots)
    (k : ∀ T' h' v L, Stand p l e R s m args below meth c T' (locs ++ L) (cells + rm.cells) (slots + rm.slots) → T'.heap = h' → Qc v h' L → Go p e below Nd Q T' (mkF m n Ls (v.toList ++ st))) : Go p e below Nd Q T (mkF m pc Ls (as'.reverse ++ .ref a :: st)) := by
  subst hn
  have hpr : s.PrivateAt y := Cond.privateMethod_at (mvP hZ wp (args := args))
  have hin : (Cond.instanceMethod y).before args s = true := mvT hZ w2
  have hus : (Cond.selects u.cls u u).before args s = true := mvT hZ wu
  obtain ⟨cu, ru, mu, u1, -, u3, -, ku, u5, u6⟩ := Cond.selects_spec hus
  have hcu : s.vm.findClass y.cls = some mu.cls := by rw [← hu]; exact findClass_of_methodNamed u3
  have hsel : (Cond.selects y.cls y y).before args s = true := selects_self_of_private hcu u5 u6 hpr hin hy
  obtain ⟨cell, hcell, hob⟩ := E.cell
  obtain ⟨v, _, ⟨T1, L1, k1, n1⟩, -, X1, ⟨L, hQ1, l1, y1, z1⟩, st1⟩ := X.privateBack hx (y := y) hown (mvT hZ w1) hin hsel hpr (mvT hZ w4) hy (backOf (W := W) hM hZ w4 w3 hf hl) (g := mkF m pc Ls (as'.reverse ++ .ref a :: st)) rfl hsize (Steps.refl _) (a := a) (cell := cell) (by rw [eT]; exact hcell) hob (argsL := as') (rest := st) (lenOf hpd hlen) rfl (by show 2 * 0 + _ ≤ _; omega) hd (fun _ _ => ⟨rfl, eT, hc, hs⟩)
  dsimp only [Pt.U, Pt.locs, Pt.cells, Pt.slots] at X1 l1 y1 z1 st1 hQ1
  subst l1 y1 z1
  exact Go.tr st1 (k T1 _ v L X1 rfl hQ1)
/-! arrays: n places, place j holds f j -/
def Av (Z : State) (h : Heap) (a : Nat) (ty : FieldType) (n : Nat) (f : Nat → Value) : Prop := ∃ cl : Cell, Arr Z h a cl ty ∧ cl.slots.size = n ∧ n < 2 ^ 31 ∧ ∀ j, j < n → cl.slots[j]? = some (f j)
variable {h' : Heap} {a b : Nat} {ty : FieldType} {sz : Nat} {f : Nat → Value} {sl : Nat} {v : Value} {ws' : List Nat}
theorem own_elt {K : String} (F : Exa Z h a K) : a < h.size := F.lt
theorem Av.lt (F : Av Z h a ty sz f) : a < h.size := by obtain ⟨c, A, -⟩ := F; exact A.lt
theorem Av.ext (F : Av Z h a ty sz f) (E : Ext h h') : Av Z h' a ty sz f := by obtain ⟨c, A, r⟩ := F; exact ⟨c, A.ext E, r⟩
theorem Av.other (F : Av Z h b ty sz f) (W : Wr h h' a sl v) (q : b ≠ a) : Av Z h' b ty sz f := by obtain ⟨c, A, r⟩ := F; exact ⟨c, A.other W q, r⟩
theorem Av.keep (F : Av Z h a ty sz f) (K : Keep h h' ws') (q : a ∉ ws') : Av Z h' a ty sz f := by obtain ⟨c, A, r⟩ := F; exact ⟨c, ⟨K.2.1 a c A.1 q, A.2⟩, r⟩
theorem Av.bnd (F : Av Z h a ty sz f) : sz < 2 ^ 31 := by obtain ⟨_, _, _, b, _⟩ := F; exact b
theorem Av.congr {f' : Nat → Value} (F : Av Z h a ty sz f) (q : ∀ j, j < sz → f j = f' j) : Av Z h a ty sz f' := by
  obtain ⟨c, A, S, b, H⟩ := F; exact ⟨c, A, S, b, fun j hj => by rw [H j hj, q j hj]⟩
theorem own_in {c : Cell} {k n : Nat} {j : Int32} (hj : j = Int32.ofNat k) (hs : c.slots.size = n) (hk : k < n) (hn : n < 2 ^ 31) : ¬ (j < 0 ∨ c.slots.size ≤ j.toNatClampNeg) ∧ j.toNatClampNeg = k := by
  subst hj hs
  refine ⟨idx_in hk hn, ?_⟩
  have := len_toInt (n := k) (Nat.lt_trans hk hn)
  show (Nat.toInt32 k).toNatClampNeg = k
  simp only [Int32.toNatClampNeg, this]; rfl
theorem own_inc (i : Nat) : Int32.ofNat i + Int32.ofInt 1 = Int32.ofNat (i + 1) := (Int32.ofNat_add i 1).symm
theorem own_le {i n : Nat} (hi : i < 2 ^ 31) (hn : n < 2 ^ 31) : Int32.ofNat n ≤ Int32.ofNat i ↔ n ≤ i := by
  rw [Int32.le_iff_toInt_le, Int32.toInt_ofNat_small hi, Int32.toInt_ofNat_small hn]; omega
theorem own_idx {i : Int32} {j n : Nat} (hj : i = Int32.ofNat j) (h1 : j < n) (h2 : n < 2 ^ 31) : ¬ i < 0 ∧ i < Int32.ofNat n := by
  subst hj
  rw [Int32.lt_iff_toInt_lt, Int32.lt_iff_toInt_lt, Int32.toInt_ofNat_small (by omega), Int32.toInt_ofNat_small h2]
  constructor
  · show ¬ (j : Int) < 0; omega
  · omega
theorem Av.set (F : Av Z h a ty sz f) {k : Nat} (W : Wr h h' a k v) (hk : k < sz) : Av Z h' a ty sz (fun i => if i = k then v else f i) := by
  obtain ⟨c, A, S, b, H⟩ := F
  refine ⟨_, A.same W, by rw [sz_set]; exact S, b, fun j hj => ?_⟩
  simp only [Cell.setSlot]
  by_cases q : j = k
  · subst q; simp [S, hj]
  · rw [Array.getElem?_setIfInBounds_ne (Ne.symm q), H j hj, if_neg q]
theorem Av.new {cA : ClassId} {N : Int32} (A : Arr Z h a (newA cA ty N) ty) (hN : N = Int32.ofNat sz) (hb : sz < 2 ^ 31) : Av Z h a ty sz (fun _ => defaultValue ty) := by
  have e : N.toNatClampNeg = sz := by
    subst hN; have := len_toInt (n := sz) hb; show (Nat.toInt32 sz).toNatClampNeg = sz; simp only [Int32.toNatClampNeg, this]; rfl
  exact ⟨_, A, by rw [sz_new, e], hb, fun j hj => by simp [newA, e, hj]⟩
theorem g_len (X : Stand p l e R s m args below meth c T locs cells slots) (hx : p.tables.exec = Jvm.exec) (hZ : Z.Warmed39 s.vm) (eT : T.heap = h) (F : Av Z h a ty sz f) (hd : decode c.code pc = .ok (.arraylength, 1)) (hn : pc + 1 = n) (k : Go p e below Nd Q T (mkF m n Ls (.int (Int32.ofNat sz) :: st))) : Go p e below Nd Q T (mkF m pc Ls (.ref a :: st)) := by
  subst hn
  obtain ⟨cl, A, S, b, H⟩ := F
  refine Go.stp (fun t q => X.arraylength hx (cell := cl) (by rw [eT]; exact A.1) (State.isArrayOf_alike hZ.alike A.2.1) (g := mkF m pc Ls (.ref a :: st)) rfl rfl hd t q) ?_
  rw [S]; exact k
theorem g_iaload (X : Stand p l e R s m args below meth c T locs cells slots) (hx : p.tables.exec = Jvm.exec) (hZ : Z.Warmed39 s.vm) (eT : T.heap = h) (F : Av Z h a .int sz f) (i : Nat) {j : Int32} (hj : j = Int32.ofNat i) (hi : i < sz) (v : Value) (hv : f i = v) (hd : decode c.code pc = .ok (.iaload, 1)) (hn : pc + 1 = n) (k : Go p e below Nd Q T (mkF m n Ls (v :: st))) : Go p e below Nd Q T (mkF m pc Ls (.int j :: .ref a :: st)) := by
  subst hn hv
  obtain ⟨cl, A, S, b, H⟩ := F
  obtain ⟨q1, q2⟩ := own_in hj S hi b
  exact Go.stp (fun t q => X.iaload hx (j := j) (v := f i) (by rw [eT]; exact A.1) (State.isArrayOf_alike hZ.alike A.2.1) A.2.2 q1 (by rw [q2]; exact H i hi) (g := mkF m pc Ls (.int j :: .ref a :: st)) rfl rfl hd t q) k
theorem g_caload (X : Stand p l e R s m args below meth c T locs cells slots) (hx : p.tables.exec = Jvm.exec) (hZ : Z.Warmed39 s.vm) (eT : T.heap = h) (F : Av Z h a .char sz f) (i : Nat) {j : Int32} (hj : j = Int32.ofNat i) (hi : i < sz) (v : Value) (hv : f i = v) (hd : decode c.code pc = .ok (.caload, 1)) (hn : pc + 1 = n) (k : Go p e below Nd Q T (mkF m n Ls (v :: st))) : Go p e below Nd Q T (mkF m pc Ls (.int j :: .ref a :: st)) := by
  subst hn hv
  obtain ⟨cl, A, S, b, H⟩ := F
  obtain ⟨q1, q2⟩ := own_in hj S hi b
  exact Go.stp (fun t q => X.caload hx (j := j) (v := f i) (by rw [eT]; exact A.1) (State.isArrayOf_alike hZ.alike A.2.1) A.2.2 q1 (by rw [q2]; exact H i hi) (g := mkF m pc Ls (.int j :: .ref a :: st)) rfl rfl hd t q) k
theorem g_baload (X : Stand p l e R s m args below meth c T locs cells slots) (hx : p.tables.exec = Jvm.exec) (hZ : Z.Warmed39 s.vm) (eT : T.heap = h) (F : Av Z h a .byte sz f) (i : Nat) {j : Int32} (hj : j = Int32.ofNat i) (hi : i < sz) (v : Value) (hv : f i = v) (hd : decode c.code pc = .ok (.baload, 1)) (hn : pc + 1 = n) (k : Go p e below Nd Q T (mkF m n Ls (v :: st))) : Go p e below Nd Q T (mkF m pc Ls (.int j :: .ref a :: st)) := by
  subst hn hv
  obtain ⟨cl, A, S, b, H⟩ := F
  obtain ⟨q1, q2⟩ := own_in hj S hi b
  exact Go.stp (fun t q => X.baloadBytes hx (j := j) (v := f i) (by rw [eT]; exact A.1) (State.isArrayOf_alike hZ.alike A.2.1) A.2.2 q1 (by rw [q2]; exact H i hi) (g := mkF m pc Ls (.int j :: .ref a :: st)) rfl rfl hd t q) k
theorem g_aaload (X : Stand p l e R s m args below meth c T locs cells slots) (hx : p.tables.exec = Jvm.exec) (hZ : Z.Warmed39 s.vm) (eT : T.heap = h) (F : Av Z h a ty sz f) (hty : ty.isReference = true) (i : Nat) {j : Int32} (hj : j = Int32.ofNat i) (hi : i < sz) (v : Value) (hv : f i = v) (hd : decode c.code pc = .ok (.aaload, 1)) (hn : pc + 1 = n) (k : Go p e below Nd Q T (mkF m n Ls (v :: st))) : Go p e below Nd Q T (mkF m pc Ls (.int j :: .ref a :: st)) := by
  subst hn hv
  obtain ⟨cl, A, S, b, H⟩ := F
  obtain ⟨q1, q2⟩ := own_in hj S hi b
  exact Go.stp (fun t q => X.aaload hx (j := j) (v := f i) (by rw [eT]; exact A.1) (State.isArrayOf_alike hZ.alike A.2.1) hty A.2.2 q1 (by rw [q2]; exact H i hi) (g := mkF m pc Ls (.int j :: .ref a :: st)) rfl rfl hd t q) k
theorem g_iastore (X : Stand p l e R s m args below meth c T locs cells slots) (hx : p.tables.exec = Jvm.exec) (hZ : Z.Warmed39 s.vm) (eT : T.heap = h) (F : Av Z h a .int sz f) (i : Nat) {j x : Int32} (hj : j = Int32.ofNat i) (hi : i < sz) (hd : decode c.code pc = .ok (.iastore, 1)) (hn : pc + 1 = n)
    (k : ∀ T' h', Stand p l e R s m args below meth c T' (locs ++ [⟨a, i⟩]) cells slots → T'.heap = h' → Wr h h' a i (.int x) → Av Z h' a .int sz (fun w => if w = i then (.int x) else f w) → Go p e below Nd Q T' (mkF m n Ls st)) : Go p e below Nd Q T (mkF m pc Ls (.int x :: .int j :: .ref a :: st)) := by
  subst hn
  have F0 := F
  obtain ⟨cl, A, S, b, H⟩ := F
  obtain ⟨q1, q2⟩ := own_in hj S hi b
  obtain ⟨T1, h1, X1, e1, W1, st1⟩ := stI X hx hZ eT A (j := j) q1 (g := mkF m pc Ls (.int x :: .int j :: .ref a :: st)) rfl rfl hd
  rw [q2] at X1 W1
  exact Go.stp st1 (k T1 h1 X1 e1 W1 (F0.set W1 hi))
theorem g_castore (X : Stand p l e R s m args below meth c T locs cells slots) (hx : p.tables.exec = Jvm.exec) (hZ : Z.Warmed39 s.vm) (eT : T.heap = h) (F : Av Z h a .char sz f) (i : Nat) {j x : Int32} (hj : j = Int32.ofNat i) (hi : i < sz) (hd : decode c.code pc = .ok (.castore, 1)) (hn : pc + 1 = n)
    (k : ∀ T' h', Stand p l e R s m args below meth c T' (locs ++ [⟨a, i⟩]) cells slots → T'.heap = h' → Wr h h' a i (.int (nar .char x)) → Av Z h' a .char sz (fun w => if w = i then (.int (nar .char x)) else f w) → Go p e below Nd Q T' (mkF m n Ls st)) : Go p e below Nd Q T (mkF m pc Ls (.int x :: .int j :: .ref a :: st)) := by
  subst hn
  have F0 := F
  obtain ⟨cl, A, S, b, H⟩ := F
  obtain ⟨q1, q2⟩ := own_in hj S hi b
  obtain ⟨T1, h1, X1, e1, W1, st1⟩ := stC X hx hZ eT A (j := j) q1 (g := mkF m pc Ls (.int x :: .int j :: .ref a :: st)) rfl rfl hd
  rw [q2] at X1 W1
  exact Go.stp st1 (k T1 h1 X1 e1 W1 (F0.set W1 hi))
theorem g_bastore (X : Stand p l e R s m args below meth c T locs cells slots) (hx : p.tables.exec = Jvm.exec) (hZ : Z.Warmed39 s.vm) (eT : T.heap = h) (F : Av Z h a .byte sz f) (i : Nat) {j x : Int32} (hj : j = Int32.ofNat i) (hi : i < sz) (hd : decode c.code pc = .ok (.bastore, 1)) (hn : pc + 1 = n)
    (k : ∀ T' h', Stand p l e R s m args below meth c T' (locs ++ [⟨a, i⟩]) cells slots → T'.heap = h' → Wr h h' a i (.int (nar .byte x)) → Av Z h' a .byte sz (fun w => if w = i then (.int (nar .byte x)) else f w) → Go p e below Nd Q T' (mkF m n Ls st)) : Go p e below Nd Q T (mkF m pc Ls (.int x :: .int j :: .ref a :: st)) := by
  subst hn
  have F0 := F
  obtain ⟨cl, A, S, b, H⟩ := F
  obtain ⟨q1, q2⟩ := own_in hj S hi b
  obtain ⟨T1, h1, X1, e1, W1, st1⟩ := stB X hx hZ eT A (j := j) q1 (g := mkF m pc Ls (.int x :: .int j :: .ref a :: st)) rfl rfl hd
  rw [q2] at X1 W1
  exact Go.stp st1 (k T1 h1 X1 e1 W1 (F0.set W1 hi))
theorem g_aastore (X : Stand p l e R s m args below meth c T locs cells slots) (hx : p.tables.exec = Jvm.exec) (hZ : Z.Warmed39 s.vm) (eT : T.heap = h) (F : Av Z h a ty sz f) (hty : ty.isReference = true) (i : Nat) {j : Int32} (hj : j = Int32.ofNat i) (hi : i < sz) (hS : Sto Z h a v) (hd : decode c.code pc = .ok (.aastore, 1)) (hn : pc + 1 = n)
    (k : ∀ T' h', Stand p l e R s m args below meth c T' (locs ++ [⟨a, i⟩]) cells slots → T'.heap = h' → Wr h h' a i v → Av Z h' a ty sz (fun w => if w = i then v else f w) → Go p e below Nd Q T' (mkF m n Ls st)) : Go p e below Nd Q T (mkF m pc Ls (v :: .int j :: .ref a :: st)) := by
  subst hn
  have F0 := F
  obtain ⟨cl, A, S, b, H⟩ := F
  obtain ⟨q1, q2⟩ := own_in hj S hi b
  obtain ⟨T1, h1, X1, e1, W1, st1⟩ := stR X hx hZ eT A (j := j) q1 hty hS (g := mkF m pc Ls (v :: .int j :: .ref a :: st)) rfl rfl hd
  rw [q2] at X1 W1
  exact Go.stp st1 (k T1 h1 X1 e1 W1 (F0.set W1 hi))
theorem g_newarray (X : Stand p l e R s m args below meth c T locs cells slots) (hx : p.tables.exec = Jvm.exec) (hZ : Z.Warmed39 s.vm) {aty : ArrayType} (ty : FieldType) (hty : newarray.typeOf aty = ty) (w : (Cond.arrayClass ty).before a0 Z = true) (eT : T.heap = h) {N : Int32} (sz : Nat) (hN : N = Int32.ofNat sz) (cap : Nat) (hcap : sz ≤ cap) (hb : cap * 8 ≤ 536870912) (hc : cells + 1 ≤ R.cells) (hl : slots + cap ≤ R.slots) (hd : decode c.code pc = .ok (.newarray aty, 2)) (hn : pc + 2 = n)
    (k : ∀ T' h' a, Stand p l e R s m args below meth c T' locs (cells + 1) (slots + cap) → T'.heap = h' → a = h.size → Ext h h' → Av Z h' a ty sz (fun _ => defaultValue ty) → Go p e below Nd Q T' (mkF m n Ls (.ref a :: st))) : Go p e below Nd Q T (mkF m pc Ls (.int N :: st)) := by
  subst hn hty
  have hb' : sz < 2 ^ 31 := by omega
  have e0 := len_toInt (n := sz) hb'
  have e : N.toNatClampNeg = sz := by subst hN; show (Nat.toInt32 sz).toNatClampNeg = sz; simp only [Int32.toNatClampNeg, e0]; rfl
  have hneg : ¬ N < 0 := by subst hN; rw [Int32.lt_iff_toInt_lt]; show ¬ (Nat.toInt32 sz).toInt < 0; rw [e0]; omega
  obtain ⟨T1, h1, cA, X1, e1, E1, A1, st1⟩ := newP X hx hZ w eT (g := mkF m pc Ls (.int N :: st)) rfl hd rfl hneg (cap := cap) (by rw [e]; exact hcap) hb hc hl
  exact Go.stp st1 (k T1 h1 h.size X1 e1 rfl E1 (Av.new A1 hN hb'))
theorem g_anewarray (X : Stand p l e R s m args below meth c T locs cells slots) (hx : p.tables.exec = Jvm.exec) (hZ : Z.Warmed39 s.vm) {K : String} (hown : s.vm.findClass own = some m.cls) (w1 : (Cond.classLink own index K).before a0 Z = true) (w2 : (Cond.arrayOver (.object K)).before a0 Z = true) (eT : T.heap = h) {N : Int32} (sz : Nat) (hN : N = Int32.ofNat sz) (cap : Nat) (hcap : sz ≤ cap) (hb : cap * 8 ≤ 536870912) (hc : cells + 1 ≤ R.cells) (hl : slots + cap ≤ R.slots) (hd : decode c.code pc = .ok (.anewarray index, 3)) (hn : pc + 3 = n)
    (k : ∀ T' h' a, Stand p l e R s m args below meth c T' locs (cells + 1) (slots + cap) → T'.heap = h' → a = h.size → Ext h h' → Av Z h' a (.object K) sz (fun _ => .null) → (∃ cl : Cell, h'[a]? = some cl ∧ Ovr Z cl.cls K) → Go p e below Nd Q T' (mkF m n Ls (.ref a :: st))) : Go p e below Nd Q T (mkF m pc Ls (.int N :: st)) := by
  subst hn
  have hb' : sz < 2 ^ 31 := by omega
  have e0 := len_toInt (n := sz) hb'
  have e : N.toNatClampNeg = sz := by subst hN; show (Nat.toInt32 sz).toNatClampNeg = sz; simp only [Int32.toNatClampNeg, e0]; rfl
  have hneg : ¬ N < 0 := by subst hN; rw [Int32.lt_iff_toInt_lt]; show ¬ (Nat.toInt32 sz).toInt < 0; rw [e0]; omega
  obtain ⟨T1, h1, cA, X1, e1, E1, A1, O1, st1⟩ := newR X hx hZ hown w1 w2 eT (g := mkF m pc Ls (.int N :: st)) rfl hd rfl hneg (cap := cap) (by rw [e]; exact hcap) hb hc hl
  exact Go.stp st1 (k T1 h1 h.size X1 e1 rfl E1 (Av.new A1 hN hb') ⟨_, A1.1, O1⟩)
theorem own_arv {f : Nat → Value} {sz : Nat} (F : Av Z h a ty sz f) (hf : ∀ j, j < sz → fits ty (f j) = true) : ∃ k, Arv Z h a k ty (Int32.ofNat sz) ((List.range sz).map f) .null := by
  obtain ⟨cl, A, S, b, H⟩ := F
  have e0 := len_toInt (n := sz) b
  have g : ∀ j, j < sz → ((List.range sz).map f).getD j .null = f j := fun j hj => by simp [List.getD_eq_getElem?_getD, hj]
  refine ⟨cl.cls, cl, A, rfl, ?_, ?_, fun j hj => ?_, fun j hj => ?_⟩
  · rw [S]; show sz = (Nat.toInt32 sz).toNatClampNeg; simp only [Int32.toNatClampNeg, e0]; rfl
  · rw [Int32.lt_iff_toInt_lt]; show ¬ (Nat.toInt32 sz).toInt < 0; rw [e0]; omega
  · rw [S] at hj; rw [g j hj]; exact H j hj
  · rw [S] at hj; rw [g j hj]; exact hf j hj
theorem own_stoL : ∀ (us : List Value), (∀ u ∈ us, Sto Z h a u) → StoL Z h a us
  | [], _ => trivial
  | u :: r, q => ⟨q u (by simp), own_stoL r (fun x hx => q x (by simp [hx]))⟩
theorem own_nat {k : Nat} (hk : k < 2 ^ 31) : (Int32.ofNat k).toNatClampNeg = k ∧ ¬ Int32.ofNat k < 0 := by
  have e0 := len_toInt (n := k) hk
  constructor
  · show (Nat.toInt32 k).toNatClampNeg = k; simp only [Int32.toNatClampNeg, e0]; rfl
  · rw [Int32.lt_iff_toInt_lt]; show ¬ (Nat.toInt32 k).toInt < 0; rw [e0]; omega
/-- System.arraycopy within bounds, what is copied fitting -/
theorem g_acopy (X : Stand p l e R s m args below meth c T locs cells slots) (hx : p.tables.exec = Jvm.exec) (hZ : Z.Warmed39 s.vm) (hown : s.vm.findClass own = some m.cls) (w1 : (Cond.methodLink own index ⟨"java/lang/System", "arraycopy", "(Ljava/lang/Object;ILjava/lang/Object;II)V"⟩).before a0 Z = true) (w2 : (Cond.native ⟨"java/lang/System", "arraycopy", "(Ljava/lang/Object;ILjava/lang/Object;II)V"⟩).before a0 Z = true) (w3 : (Cond.static ⟨"java/lang/System", "arraycopy", "(Ljava/lang/Object;ILjava/lang/Object;II)V"⟩).before a0 Z = true) (w4 : (Cond.initialized "java/lang/System").before a0 Z = true) (eT : T.heap = h)
    {f' : Nat → Value} {sz' : Nat} (A : Av Z h a ty sz f) (B : Av Z h b ty sz' f') (hfA : ∀ j, j < sz → fits ty (f j) = true) (hfB : ∀ j, j < sz' → fits ty (f' j) = true) (sp dp nn : Nat) (hty : refKind ty = false ∨ (refKind ty = true ∧ ∀ i, i < nn → Sto Z h b (f (sp + i)))) (h4 : sp + nn ≤ sz) (h5 : dp + nn ≤ sz')
    {vs vd vn : Int32} (hvs : vs = Int32.ofNat sp) (hvd : vd = Int32.ofNat dp) (hvn : vn = Int32.ofNat nn) {n0 : Nat} (N : Fr n0 locs) (ge : n0 ≤ b) (hd : decode c.code pc = .ok (.invokestatic index, 3)) (hn : pc + 3 = n) (hsize : Ls.size = c.maxLocals) (hf : 1 ≤ R.frames) (W : Nat) (hW : (st.map fun v => v.category).sum ≤ W) (hlo : W + (nativeFrameWords "java/lang/System" "arraycopy" 5 + 11) ≤ R.locals)
    (k : ∀ T' h' L, Stand p l e R s m args below meth c T' L cells slots → T'.heap = h' → Fr n0 L → Keep h h' [b] → Av Z h' b ty sz' (fun j => if dp ≤ j ∧ j < dp + nn then f (sp + (j - dp)) else f' j) → Go p e below Nd Q T' (mkF m n Ls st)) : Go p e below Nd Q T (mkF m pc Ls (.int vn :: .int vd :: .ref b :: .int vs :: .ref a :: st)) := by
  subst hn hvs hvd hvn
  have bA := A.bnd
  have bB := B.bnd
  obtain ⟨kA, VA⟩ := own_arv A hfA
  obtain ⟨kB, VB⟩ := own_arv B hfB
  obtain ⟨s1, s2⟩ := own_nat (k := sp) (by omega)
  obtain ⟨d1, d2⟩ := own_nat (k := dp) (by omega)
  obtain ⟨l1, l2⟩ := own_nat (k := nn) (by omega)
  obtain ⟨zA, -⟩ := own_nat (k := sz) bA
  obtain ⟨zB, -⟩ := own_nat (k := sz') bB
  have hus : (List.range nn).map (fun i => f (sp + i)) = (List.range (Int32.ofNat nn).toNatClampNeg).map fun i => ((List.range sz).map f).getD ((Int32.ofNat sp).toNatClampNeg + i) .null := by
    rw [l1, s1]
    apply List.map_congr_left
    intro i hi
    have := List.mem_range.mp hi
    simp [List.getD_eq_getElem?_getD, show sp + i < sz by omega]
  obtain ⟨T1, h1, L1, X1, e1, N1, K1, V1, st1⟩ := cpA X hx hZ hown w1 w2 w3 w4 eT (us := (List.range nn).map (fun i => f (sp + i))) VA VB (by
      rcases hty with q | ⟨q1, q2⟩
      · exact Or.inl ⟨rfl, q⟩
      · refine Or.inr ⟨q1, q1, own_stoL _ (fun u hu => ?_)⟩
        obtain ⟨i, hi, rfl⟩ := List.mem_map.mp hu
        exact q2 i (List.mem_range.mp hi)) s2 d2 l2 (by rw [s1, l1, zA]; exact h4) (by rw [d1, l1, zB]; exact h5) hus (by rw [d1, l1]; simpa using h5) N ge (g := mkF m pc Ls (.int (Int32.ofNat nn) :: .int (Int32.ofNat dp) :: .ref b :: .int (Int32.ofNat sp) :: .ref a :: st)) rfl hsize rfl hd hf (W := W) (by show 2 * 0 + _ ≤ _; omega) hlo
  refine Go.stp st1 (k T1 h1 L1 X1 e1 N1 K1 ?_)
  obtain ⟨cl, A1, -, S1, -, H1, -⟩ := V1
  rw [zB] at S1
  refine ⟨cl, A1, S1, bB, fun j hj => ?_⟩
  rw [H1 j (by rw [S1]; exact hj), d1, l1]
  congr 1
  simp only [List.getD_eq_getElem?_getD]
  by_cases c1 : j < dp
  · rw [if_neg (by omega), List.append_assoc, List.getElem?_append_left (by simp; omega)]
    simp [List.getElem?_take, c1, hj]
  · by_cases c2 : j < dp + nn
    · rw [if_pos ⟨by omega, c2⟩, List.getElem?_append_left (by simp; omega), List.getElem?_append_right (by simp; omega)]
      simp [show min dp sz' = dp by omega, show j - dp < nn by omega]
    · rw [if_neg (by omega), List.getElem?_append_right (by simp; omega)]
      simp [show min dp sz' = dp by omega, List.getElem?_drop, show dp + nn + (j - (dp + nn)) = j by omega, hj]
end OwnKit

section OwnStart
variable {Z : State} {args : Array Value} {t : Term} {a b : Nat} {ty : FieldType} {n : Nat}
theorem own_sta {C f d : String} {K : String} (h : (Cond.exactly (.static C f d) K).value args Z none Z [] = some true) (w1 : (Cond.initialized C).before args Z = true) (w2 : (Cond.laysStatic C f d).before args Z = true) :
    ∃ x, (Term.static C f d).eval args Z none [] Z = some (.ref x) ∧ Sta Z Z.heap C f d (.ref x) ∧ Exa Z Z.heap x K := by
  obtain ⟨x, ev⟩ := exa_v h
  exact ⟨x, ev, Sta.start ev (Or.inr ⟨w1, w2⟩), Exa.start ev h⟩
theorem own_fldE {C f d : String} {K : String} (ht : t.eval args Z none [] Z = some (.ref a)) (h : (Cond.exactly (.field t C f d) K).value args Z none Z [] = some true) :
    ∃ x, (Term.field t C f d).eval args Z none [] Z = some (.ref x) ∧ Fld Z Z.heap a C f d (.ref x) ∧ Exa Z Z.heap x K := by
  obtain ⟨x, ev⟩ := exa_v h
  exact ⟨x, ev, Fld.start (by rw [← fld_at ht]; exact ev), Exa.start ev h⟩
theorem own_fldI {C f d : String} {v : Int32} (ht : t.eval args Z none [] Z = some (.ref a)) (h : (Cond.eq (.field t C f d) (.int v)).value args Z none Z [] = some true) : Fld Z Z.heap a C f d (.int v) :=
  Fld.start (by rw [← fld_at ht]; exact Cond.eq_int (b := .int v) (by simp [Cond.holds, h]) (Term.int_eval v))
theorem own_arr {C f d : String} (ht : t.eval args Z none [] Z = some (.ref a)) (h : (Cond.arrayOf (.field t C f d) ty).value args Z none Z [] = some true) {N : Int32} (hl : (Cond.eq (.length (.field t C f d)) (.int N)).value args Z none Z [] = some true) (hN : N = Int32.ofNat n) (hn : n < 2 ^ 31) :
    ∃ x g, (Term.field t C f d).eval args Z none [] Z = some (.ref x) ∧ Fld Z Z.heap a C f d (.ref x) ∧ Av Z Z.heap x ty n g ∧ ∀ (j : Nat) (J v : Int32), J = Int32.ofNat j → j < n → (Cond.eq (.elem (.field t C f d) (.int J)) (.int v)).value args Z none Z [] = some true → g j = .int v := by
  obtain ⟨x, ev⟩ := arr_v h
  obtain ⟨c, A⟩ := Arr.start ev h
  have el : (Term.length (.field t C f d)).eval args Z none [] Z = some (.int N) := Cond.eq_int (b := .int N) (by simp [Cond.holds, hl]) (Term.int_eval N)
  have hat : Z.arrayAt? x = some c := IntBox.arrayAt_of A.1 A.2.1 A.2.2
  obtain ⟨x', c', e1, e2, e3⟩ := Term.length_spec el
  cases ev.symm.trans e1
  cases hat.symm.trans e2
  have hlt : c.slots.size < 2 ^ 31 := Jvm.Free.SBG.length_lt ev hat el
  have hs : c.slots.size = n := by
    have e4 : c.slots.size.toInt32 = Int32.ofNat n := by rw [← hN]; injection e3 with e5; exact e5.symm
    have e5 := congrArg Int32.toInt e4
    rw [len_toInt hlt, Int32.toInt_ofNat_small hn] at e5
    omega
  refine ⟨x, fun j => (c.slots[j]?).getD .null, ev, Fld.start (by rw [← fld_at ht]; exact ev), ⟨c, A, hs, hn, fun j hj => ?_⟩, fun j J v hJ hj he => ?_⟩
  · rw [← hs] at hj; simp [hj]
  · have ee : (Term.elem (.field t C f d) (.int J)).eval args Z none [] Z = some (.int v) := Cond.eq_int (b := .int v) (by simp [Cond.holds, he]) (Term.int_eval v)
    obtain ⟨-, q⟩ := elem_in ee ev (Term.int_eval J) A.1
    rw [(own_in hJ hs hj hn).2] at q
    show (c.slots[j]?).getD .null = _
    rw [q]; rfl
/-- a String of n bytes, coder 0 -/
def Ostr (Z : State) (h : Heap) (a b : Nat) (n : Nat) (g : Nat → Value) : Prop := Exa Z h a "java/lang/String" ∧ Fld Z h a "java/lang/String" "coder" "B" (.int 0) ∧ Fld Z h a "java/lang/String" "value" "[B" (.ref b) ∧ Av Z h b .byte n g
theorem Ostr.ext {h h' : Heap} {g : Nat → Value} (F : Ostr Z h a b n g) (E : Ext h h') : Ostr Z h' a b n g := ⟨F.1.ext E, F.2.1.ext E, F.2.2.1.ext E, F.2.2.2.ext E⟩
theorem own_char_nar (x : Int32) : narrow .char (.int x.toUInt32.toUInt16.toUInt32.toInt32) = .int x.toUInt32.toUInt16.toUInt32.toInt32 := by
  generalize x.toUInt32.toUInt16 = y
  simp [narrow]
theorem own_shr0 (x : Int32) : x >>> ((0 : Int32) &&& 31) = x := by
  show x >>> (0 : Int32) = x; simp
end OwnStart

section OwnLdc
def own_l (L : List Int32) (j : Nat) : Value := .int (L.getD j 0)
variable {p : Program} {l : Launch} {e : Env} {R : Room} {s : State} {m : MethodId} {args : Array Value} {below : List Frame} {meth : Method} {c : Code} {T : State} {locs : List Loc} {cells slots C S : Nat} {Nd : Outcome → State → List Loc → Prop} {Q : Option Value → Heap → List Loc → Prop} {pc n : Nat} {Ls : Array Slot} {st : List Value} {Z : State} {a0 : Array Value} {h : Heap} {vm0 : Vm}
theorem own_of_arv {b : Nat} {k : ClassId} {z : Int32} {L : List Int32} (V : Arv Z h b k .byte z (L.map Value.int) (.int 0)) (hz : z.toNatClampNeg = L.length) (hb : L.length < 2 ^ 31) : Av Z h b .byte L.length (own_l L) := by
  obtain ⟨cl, A, -, S, -, H, -⟩ := V
  refine ⟨cl, A, S.trans hz, hb, fun j hj => ?_⟩
  rw [H j (by rw [S, hz]; exact hj)]
  simp [own_l, List.getD_eq_getElem?_getD, hj]
theorem g_ldcS (X : Stand p l e R (s.setVm vm0) m args below meth c T locs cells slots) (hx : p.tables.exec = Jvm.exec) (hZ : Z.Warmed39 vm0) {own text : String} {index : Nat} (hown : vm0.findClass own = some m.cls) (w : (Cond.stringLink own index text).before a0 Z = true) (wS : ∀ a ∈ Bundle.stringAtoms, a.before a0 Z = true)
    (eT : T.heap = h) {k0 : Nat} (hS : s.Since vm0 k0) (hk : k0 ≤ h.size) (N : Fr s.heap.size locs) (hkeep : ∀ (b : Nat) (cl : Cell), Z.heap[b]? = some cl → s.heap[b]? = some cl) {Ts : List String} (I : IB Z vm0 Ts) (hnot : text ∉ Ts) (hh : Jvm.Lit.constHeld Z own index) (hcw : Jvm.Lit.compactW.before a0 Z = true)
    (L : List Int32) (ht : (∀ c ∈ text.toList, c.toNat < 256) ∧ text.toList.map (fun c => Value.int (Jvm.Lit.byteI c.toNat.toUInt16)) = L.map Value.int) (hz : (Int32.ofNat L.length).toNatClampNeg = L.length) (hz' : ¬ Int32.ofNat L.length < 0) (hb : L.length < 2 ^ 31) (hd : decode c.code pc = .ok (.ldc index, 2)) (hn : pc + 2 = n) (nn : Nat) (hn4 : 4 * text.toList.length ≤ nn) (hbig : nn ≤ 536870912) (hc : cells + 2 ≤ R.cells) (hl : slots + (nn + 4) ≤ R.slots)
    (k : ∀ T' h' a b vm1 k1, Stand p l e R (s.setVm vm1) m args below meth c T' locs (cells + 2) (slots + (nn + 4)) → T'.heap = h' → Ext h h' → s.Since vm1 k1 → k1 ≤ h'.size → Z.Warmed39 (s.setVm vm1).vm → (s.setVm vm1).vm.findClass own = some m.cls → Ostr Z h' a b L.length (own_l L) → Go p e below Nd Q T' (mkF m n Ls (.ref a :: st))) : Go p e below Nd Q T (mkF m pc Ls st) := by
  subst hn
  obtain ⟨a, T', h', k1, b, kc, X', e', E, hS', hk', hZ', hown', r8, r9, r10, r11, -, -, -, st1⟩ := ldcSV X hx hZ hown w wS eT hS hk N hkeep I hnot hh hcw (vs := L.map Value.int) (z := Int32.ofNat L.length) ht hz' (by rw [hz]; simp) (g := mkF m pc Ls st) rfl hd hn4 hbig hc hl
  exact Go.stp st1 (k T' h' a b _ k1 X' e' E hS' hk' hZ' hown' ⟨r8, r9, r10, own_of_arv r11 hz hb⟩)
theorem Fw.of {v : Option Value} {k0 : Nat} (hS : s.Since vm0 k0) (eT : T.heap = h) (hk : k0 ≤ h.size) (hC : cells ≤ C) (hSl : slots ≤ S) : ∀ t, FrameEnd (s.setVm vm0) (.returned v) t locs cells slots → t.heap = T.heap → Fw s C S (.returned v) t locs := fun t q ht => by
  obtain ⟨q1, q2, q3⟩ := q
  obtain ⟨a1, a2, a3⟩ := hS.ended (U := t) q2 (by rw [ht, eT]; exact hk) q3
  exact ⟨q1, a1, a2, a3.mono hC hSl⟩
/-- a law's contract over Z itself, the wide end -/
abbrev OMetW (l : Launch) (Z : State) (y : MethodName) (bytes : ByteArray) (maxL : Nat) (ret : Option FieldType) (ws : List Cond) (rm : Room) (as' : Array Value) (Qc : Option Value → Heap → List Loc → Prop) : Prop :=
  MetFree l y (head1 (Cond.code y bytes maxL ret :: ws) rm) (fun a U => a = as' ∧ U = Z) (fun _ _ _ _ _ => True) (fun _ U o U' => ∃ v L, o = .returned v ∧ Qc v U'.heap L ∧ ReturnedEndW U o U' L rm.cells rm.slots)
theorem own_bodyW {y : MethodName} {bytes : ByteArray} {maxL : Nat} {ret : Option FieldType} {rm : Room} {Qc : Option Value → Heap → List Loc → Prop} {ws : List Cond} {as' : Array Value} (hpn : plainFor y = true) (hef : ∀ m, entryFrame m as' maxL = mkF m 0 Ls [])
    (H : ∀ (p : Program) (e : Env) (m : MethodId) (below : List Frame) (meth : Method) (c : Code) (s₁ : State), Stand p l e rm Z m as' below meth c s₁ [] 0 0 → p.tables.exec = Jvm.exec → c.code = bytes → c.maxLocals = maxL → Z.vm.findClass y.cls = some m.cls → meth.name = y.name → meth.sig.returnType = ret → meth.locks = false → s₁.heap = Z.heap → Go p e below (Fw Z rm.cells rm.slots) Qc s₁ (mkF m 0 Ls [])) :
    OMetW l Z y bytes maxL ret ws rm as' Qc := by
  refine MetFree.of_bodySF hpn hisR ?_
  intro p e s m args below meth c s₁ Bd hml0 hP hK
  obtain ⟨rfl, rfl⟩ := hP
  obtain ⟨s₂, o, h1, h2, h3, h4⟩ := H p e m below meth c s₁ (Stand.of_body Bd) Bd.exec Bd.bytes hml0 (findClass_of_methodNamed Bd.named) (name_of_methodNamed Bd.named Bd.method).1 Bd.returns (BodyLoose.notSynchronized Bd) (by rw [Bd.state]; rfl)
  exact ⟨s₂, o, castTop (hef m) h1, h2, h3, h4⟩
/-- what equals answers of two texts -/
def own_eqv (n1 n2 : Nat) (f1 f2 : Nat → Int32) : Int32 := if n1 = n2 ∧ (∀ j, j < n1 → f1 j = f2 j) then 1 else 0
theorem own_eqv01 (n1 n2 : Nat) (f1 f2 : Nat → Int32) : own_eqv n1 n2 f1 f2 = 0 ∨ own_eqv n1 n2 f1 f2 = 1 := by unfold own_eqv; split <;> simp
theorem own_ostr_same {a b1 b2 : Nat} {n1 n2 : Nat} {f1 f2 : Nat → Int32} (A : Ostr Z h a b1 n1 (fun j => .int (f1 j))) (B : Ostr Z h a b2 n2 (fun j => .int (f2 j))) : own_eqv n1 n2 f1 f2 = 1 := by
  have hb : b1 = b2 := by
    by_cases q : b1 = b2
    · exact q
    · exact absurd rfl (Fld.ne A.2.2.1 B.2.2.1 (fun r => q (by injection r)))
  subst hb
  obtain ⟨c1, A1, S1, _, H1⟩ := A.2.2.2
  obtain ⟨c2, A2, S2, _, H2⟩ := B.2.2.2
  have hc : c1 = c2 := Option.some.inj (A1.1.symm.trans A2.1)
  subst hc
  have hn : n1 = n2 := S1.symm.trans S2
  subst hn
  have hf : ∀ j, j < n1 → f1 j = f2 j := fun j hj => by
    have := Option.some.inj ((H1 j hj).symm.trans (H2 j hj)); injection this
  simp [own_eqv, hf]
  exact fun j hj => hf j hj
end OwnLdc

theorem pd_0 : parseMethodDescriptor "([B[B)Z" = some ⟨[.array (.byte), .array (.byte)], some (.boolean)⟩ := by decide +kernel
theorem pd_1 : parseMethodDescriptor "()Ljava/lang/String;" = some ⟨[], some (.object "java/lang/String")⟩ := by decide +kernel
theorem pd_2 : parseMethodDescriptor "(Ljava/lang/Object;)Z" = some ⟨[.object "java/lang/Object"], some (.boolean)⟩ := by decide +kernel
theorem pd_3 : parseMethodDescriptor "()Z" = some ⟨[], some (.boolean)⟩ := by decide +kernel
theorem own_m3 (x : Int32) : ((x &&& (2147483647 : Int32)) % (3 : Int32)) = 0 ∨ ((x &&& (2147483647 : Int32)) % (3 : Int32)) = 1 ∨ ((x &&& (2147483647 : Int32)) % (3 : Int32)) = 2 := by
  have e1 : (x &&& 2147483647).toInt = x.toInt % 2 ^ 31 := Jvm.Kit.i32_mask x 2147483647 (k := 31) (by decide) (by decide)
  have e2 : ((x &&& 2147483647) % 3).toInt = (x &&& 2147483647).toInt.tmod 3 := Int32.toInt_mod _ _
  have e3 : (x &&& 2147483647).toInt.tmod 3 = (x &&& 2147483647).toInt % 3 := Int.tmod_eq_emod_of_nonneg (by omega)
  have h : ((x &&& 2147483647) % 3).toInt = 0 ∨ ((x &&& 2147483647) % 3).toInt = 1 ∨ ((x &&& 2147483647) % 3).toInt = 2 := by omega
  rcases h with h | h | h
  · exact Or.inl (Int32.toInt_inj.mp h)
  · exact Or.inr (Or.inl (Int32.toInt_inj.mp h))
  · exact Or.inr (Or.inr (Int32.toInt_inj.mp h))
def own_rec (a b : Nat) : Int32 := if a = b then 0 else 1

theorem d3_0 : decode jdk_43_method_13_code 0 = .ok (.aload_n 0, 1) := by decide +kernel
theorem d3_1 : decode jdk_43_method_13_code 1 = .ok (.arraylength, 1) := by decide +kernel
theorem d3_2 : decode jdk_43_method_13_code 2 = .ok (.aload_n 1, 1) := by decide +kernel
theorem d3_3 : decode jdk_43_method_13_code 3 = .ok (.arraylength, 1) := by decide +kernel
theorem d3_4 : decode jdk_43_method_13_code 4 = .ok (.if_icmp .ne 30, 3) := by decide +kernel
theorem d3_7 : decode jdk_43_method_13_code 7 = .ok (.iconst 0, 1) := by decide +kernel
theorem d3_8 : decode jdk_43_method_13_code 8 = .ok (.istore_n 2, 1) := by decide +kernel
theorem d3_9 : decode jdk_43_method_13_code 9 = .ok (.iload_n 2, 1) := by decide +kernel
theorem d3_10 : decode jdk_43_method_13_code 10 = .ok (.aload_n 0, 1) := by decide +kernel
theorem d3_11 : decode jdk_43_method_13_code 11 = .ok (.arraylength, 1) := by decide +kernel
theorem d3_12 : decode jdk_43_method_13_code 12 = .ok (.if_icmp .ge 20, 3) := by decide +kernel
theorem d3_15 : decode jdk_43_method_13_code 15 = .ok (.aload_n 0, 1) := by decide +kernel
theorem d3_16 : decode jdk_43_method_13_code 16 = .ok (.iload_n 2, 1) := by decide +kernel
theorem d3_17 : decode jdk_43_method_13_code 17 = .ok (.baload, 1) := by decide +kernel
theorem d3_18 : decode jdk_43_method_13_code 18 = .ok (.aload_n 1, 1) := by decide +kernel
theorem d3_19 : decode jdk_43_method_13_code 19 = .ok (.iload_n 2, 1) := by decide +kernel
theorem d3_20 : decode jdk_43_method_13_code 20 = .ok (.baload, 1) := by decide +kernel
theorem d3_21 : decode jdk_43_method_13_code 21 = .ok (.if_icmp .eq 5, 3) := by decide +kernel
theorem d3_24 : decode jdk_43_method_13_code 24 = .ok (.iconst 0, 1) := by decide +kernel
theorem d3_25 : decode jdk_43_method_13_code 25 = .ok (.ireturn, 1) := by decide +kernel
theorem d3_26 : decode jdk_43_method_13_code 26 = .ok (.iinc 2 1, 3) := by decide +kernel
theorem d3_29 : decode jdk_43_method_13_code 29 = .ok (.goto (-20), 3) := by decide +kernel
theorem d3_32 : decode jdk_43_method_13_code 32 = .ok (.iconst 1, 1) := by decide +kernel
theorem d3_33 : decode jdk_43_method_13_code 33 = .ok (.ireturn, 1) := by decide +kernel
theorem d3_34 : decode jdk_43_method_13_code 34 = .ok (.iconst 0, 1) := by decide +kernel
theorem d3_35 : decode jdk_43_method_13_code 35 = .ok (.ireturn, 1) := by decide +kernel
theorem pn_3 : plainFor (⟨"java/lang/StringLatin1", "equals", "([B[B)Z"⟩ : MethodName) = true := by first | (exact plainFor_of_name (by first | (simp [plainName, overriddenIn, x]; done) | decide +kernel)) | decide +kernel
set_option maxRecDepth 65536 in
set_option maxHeartbeats 40000000 in
theorem rm3 (l : Launch) (Z : State) (a0 : Array Value) (hw : ∀ d ∈ tables_1, d.before a0 Z = true) (b1 b2 : Nat) (n1 n2 : Nat) (f1 f2 : Nat → Int32) (h0 : Heap) (A1 : Av Z h0 b1 .byte n1 (fun j => .int (f1 j))) (A2 : Av Z h0 b2 .byte n2 (fun j => .int (f2 j))) :
    OMet l Z (⟨"java/lang/StringLatin1", "equals", "([B[B)Z"⟩ : MethodName) jdk_43_method_13_code 3 (some (.boolean)) [] ({ frames := 0, cells := 0, slots := 0, locals := 0 } : Room) #[.ref b1, .ref b2] h0 (Pu (.int (own_eqv n1 n2 f1 f2)) h0) := by
  refine own_body (Ls := #[.val (.ref b1), .val (.ref b2), .unset]) pn_3 (fun m => by first | (simp [entryFrame, mkF, argsToLocals, Value.category, maxLocals]; done) | rfl) ?_
  intro p e s m below meth c s₁ X0 hx hby hml hown hnm hret hlk hZ e0
  refine g_aloadN (n := 1) X0 hx (hb hby d3_0) rfl rfl rfl ?_
  refine g_len (n := 2) X0 hx hZ e0 A1 (hb hby d3_1) rfl ?_
  refine g_aloadN (n := 3) X0 hx (hb hby d3_2) rfl rfl rfl ?_
  refine g_len (n := 4) X0 hx hZ e0 A2 (hb hby d3_3) rfl ?_
  refine g_icmp (n := 34) (n' := 7) X0 hx _ (own_cne _ _) (hb hby d3_4) (by decide) (by decide) rfl (fun hc1 => ?_) (fun hc1 => ?_)
  · refine g_iconst (n := 35) X0 hx (0 : Int32) (hb hby d3_34) rfl rfl ?_
    refine g_retZ X0 hx (by decide) hret hlk (hb hby d3_35) (Fe.of (by decide) (by decide)) ?_
    try rw [e0]
    have q : ¬ n1 = n2 := fun q => hc1 (by rw [q])
    exact ⟨by simp [own_eqv, q], rfl, rfl⟩
  · have hn : n1 = n2 := by
      have q := congrArg Int32.toInt (Classical.not_not.mp hc1)
      rw [Int32.toInt_ofNat_small A1.bnd, Int32.toInt_ofNat_small A2.bnd] at q; omega
    subst hn
    have hb1 := A1.bnd
    have loop : ∀ (k i : Nat), i + k = n1 → (∀ j, j < i → f1 j = f2 j) → Go p e below (Fe s ({ frames := 0, cells := 0, slots := 0, locals := 0 } : Room).cells ({ frames := 0, cells := 0, slots := 0, locals := 0 } : Room).slots) (Pu (.int (own_eqv n1 n1 f1 f2)) h0) s₁ (mkF m 9 #[.val (.ref b1), .val (.ref b2), .val (.int (Int32.ofNat i))] []) := by
      intro k; induction k with
      | zero =>
        intro i hi hq
        refine g_iloadN (n := 10) X0 hx (hb hby d3_9) rfl rfl ?_
        refine g_aloadN (n := 11) X0 hx (hb hby d3_10) rfl rfl rfl ?_
        refine g_len (n := 12) X0 hx hZ e0 A1 (hb hby d3_11) rfl ?_
        refine g_icmp (n := 32) (n' := 15) X0 hx _ (own_cge _ _) (hb hby d3_12) (by decide) (by decide) rfl (fun _ => ?_) (fun hc => absurd ((own_le (by omega) (by omega)).mpr (by omega)) hc)
        refine g_iconst (n := 33) X0 hx (1 : Int32) (hb hby d3_32) rfl rfl ?_
        refine g_retZ X0 hx (by decide) hret hlk (hb hby d3_33) (Fe.of (by decide) (by decide)) ?_
        try rw [e0]
        have q : ∀ j, j < n1 → f1 j = f2 j := fun j hj => hq j (by omega)
        exact ⟨by simp [own_eqv]; exact q, rfl, rfl⟩
      | succ k ih =>
        intro i hi hq
        refine g_iloadN (n := 10) X0 hx (hb hby d3_9) rfl rfl ?_
        refine g_aloadN (n := 11) X0 hx (hb hby d3_10) rfl rfl rfl ?_
        refine g_len (n := 12) X0 hx hZ e0 A1 (hb hby d3_11) rfl ?_
        refine g_icmp (n := 32) (n' := 15) X0 hx _ (own_cge _ _) (hb hby d3_12) (by decide) (by decide) rfl (fun hc => absurd hc (fun q => absurd ((own_le (by omega) (by omega)).mp q) (by omega))) (fun _ => ?_)
        refine g_aloadN (n := 16) X0 hx (hb hby d3_15) rfl rfl rfl ?_
        refine g_iloadN (n := 17) X0 hx (hb hby d3_16) rfl rfl ?_
        refine g_baload (n := 18) X0 hx hZ e0 A1 i rfl (by omega) (.int (f1 i)) rfl (hb hby d3_17) rfl ?_
        refine g_aloadN (n := 19) X0 hx (hb hby d3_18) rfl rfl rfl ?_
        refine g_iloadN (n := 20) X0 hx (hb hby d3_19) rfl rfl ?_
        refine g_baload (n := 21) X0 hx hZ e0 A2 i rfl (by omega) (.int (f2 i)) rfl (hb hby d3_20) rfl ?_
        refine g_icmp (n := 26) (n' := 24) X0 hx _ (own_ceq _ _) (hb hby d3_21) (by decide) (by decide) rfl (fun hc2 => ?_) (fun hc2 => ?_)
        · refine g_iinc (n := 29) X0 hx (hb hby d3_26) rfl rfl (Int32.ofNat (i + 1)) (own_inc i) #[.val (.ref b1), .val (.ref b2), .val (.int (Int32.ofNat (i + 1)))] rfl ?_
          refine g_goto (n := 9) X0 hx (hb hby d3_29) (by decide) (by decide) ?_
          exact ih (i + 1) (by omega) (fun j hj => by
            by_cases q : j = i
            · rw [q]; exact hc2
            · exact hq j (by omega))
        · refine g_iconst (n := 25) X0 hx (0 : Int32) (hb hby d3_24) rfl rfl ?_
          refine g_retZ X0 hx (by decide) hret hlk (hb hby d3_25) (Fe.of (by decide) (by decide)) ?_
          try rw [e0]
          have q : ¬ ∀ j, j < n1 → f1 j = f2 j := fun q => hc2 (q i (by omega))
          exact ⟨by simp only [own_eqv, q, and_false, if_false], rfl, rfl⟩
    refine g_iconst (n := 8) X0 hx (0 : Int32) (hb hby d3_7) rfl rfl ?_
    refine g_istoreN (n := 9) X0 hx (hb hby d3_8) rfl #[.val (.ref b1), .val (.ref b2), .val (.int (0 : Int32))] rfl ?_
    exact loop n1 0 (by omega) (fun j hj => absurd hj (Nat.not_lt_zero j))
theorem d2_0 : decode jdk_42_method_66_code 0 = .ok (.aload_n 0, 1) := by decide +kernel
theorem d2_1 : decode jdk_42_method_66_code 1 = .ok (.aload_n 1, 1) := by decide +kernel
theorem d2_2 : decode jdk_42_method_66_code 2 = .ok (.if_acmp .ne 5, 3) := by decide +kernel
theorem d2_5 : decode jdk_42_method_66_code 5 = .ok (.iconst 1, 1) := by decide +kernel
theorem d2_6 : decode jdk_42_method_66_code 6 = .ok (.ireturn, 1) := by decide +kernel
theorem d2_7 : decode jdk_42_method_66_code 7 = .ok (.aload_n 1, 1) := by decide +kernel
theorem d2_8 : decode jdk_42_method_66_code 8 = .ok (.instanceof 10, 3) := by decide +kernel
theorem d2_11 : decode jdk_42_method_66_code 11 = .ok (.ifCond .eq 43, 3) := by decide +kernel
theorem d2_14 : decode jdk_42_method_66_code 14 = .ok (.aload_n 1, 1) := by decide +kernel
theorem d2_15 : decode jdk_42_method_66_code 15 = .ok (.checkcast 10, 3) := by decide +kernel
theorem d2_18 : decode jdk_42_method_66_code 18 = .ok (.astore_n 2, 1) := by decide +kernel
theorem d2_19 : decode jdk_42_method_66_code 19 = .ok (.getstatic 38, 3) := by decide +kernel
theorem d2_22 : decode jdk_42_method_66_code 22 = .ok (.ifCond .eq 14, 3) := by decide +kernel
theorem d2_25 : decode jdk_42_method_66_code 25 = .ok (.aload_n 0, 1) := by decide +kernel
theorem d2_26 : decode jdk_42_method_66_code 26 = .ok (.getfield 15, 3) := by decide +kernel
theorem d2_29 : decode jdk_42_method_66_code 29 = .ok (.aload_n 2, 1) := by decide +kernel
theorem d2_30 : decode jdk_42_method_66_code 30 = .ok (.getfield 15, 3) := by decide +kernel
theorem d2_33 : decode jdk_42_method_66_code 33 = .ok (.if_icmp .ne 21, 3) := by decide +kernel
theorem d2_36 : decode jdk_42_method_66_code 36 = .ok (.aload_n 0, 1) := by decide +kernel
theorem d2_37 : decode jdk_42_method_66_code 37 = .ok (.getfield 9, 3) := by decide +kernel
theorem d2_40 : decode jdk_42_method_66_code 40 = .ok (.aload_n 2, 1) := by decide +kernel
theorem d2_41 : decode jdk_42_method_66_code 41 = .ok (.getfield 9, 3) := by decide +kernel
theorem d2_44 : decode jdk_42_method_66_code 44 = .ok (.invokestatic 541, 3) := by decide +kernel
theorem d2_47 : decode jdk_42_method_66_code 47 = .ok (.ifCond .eq 7, 3) := by decide +kernel
theorem d2_50 : decode jdk_42_method_66_code 50 = .ok (.iconst 1, 1) := by decide +kernel
theorem d2_51 : decode jdk_42_method_66_code 51 = .ok (.goto 4, 3) := by decide +kernel
theorem d2_54 : decode jdk_42_method_66_code 54 = .ok (.iconst 0, 1) := by decide +kernel
theorem d2_55 : decode jdk_42_method_66_code 55 = .ok (.ireturn, 1) := by decide +kernel
theorem pn_2 : plainFor (⟨"java/lang/String", "equals", "(Ljava/lang/Object;)Z"⟩ : MethodName) = true := by first | (exact plainFor_of_name (by first | (simp [plainName, overriddenIn, x]; done) | decide +kernel)) | decide +kernel
set_option maxRecDepth 65536 in
set_option maxHeartbeats 40000000 in
theorem rm2 (l : Launch) (Z : State) (a0 : Array Value) (hw : ∀ d ∈ tables_1, d.before a0 Z = true) (a1 a2 b1 b2 : Nat) (n1 n2 : Nat) (f1 f2 : Nat → Int32) (cs : Int32) (h0 : Heap) (Scs : Sta Z h0 "java/lang/String" "COMPACT_STRINGS" "Z" (.int cs)) (hcs : ¬ cs = 0) (S1 : Ostr Z h0 a1 b1 n1 (fun j => .int (f1 j))) (S2 : Ostr Z h0 a2 b2 n2 (fun j => .int (f2 j))) :
    OMet l Z (⟨"java/lang/String", "equals", "(Ljava/lang/Object;)Z"⟩ : MethodName) jdk_42_method_66_code 3 (some (.boolean)) [] ({ frames := 1, cells := 0, slots := 0, locals := 14 } : Room) #[.ref a1, .ref a2] h0 (Pu (.int (own_eqv n1 n2 f1 f2)) h0) := by
  refine own_body (Ls := #[.val (.ref a1), .val (.ref a2), .unset]) pn_2 (fun m => by first | (simp [entryFrame, mkF, argsToLocals, Value.category, maxLocals]; done) | rfl) ?_
  intro p e s m below meth c s₁ X0 hx hby hml hown hnm hret hlk hZ e0
  refine g_aloadN (n := 1) X0 hx (hb hby d2_0) rfl rfl rfl ?_
  refine g_aloadN (n := 2) X0 hx (hb hby d2_1) rfl rfl rfl ?_
  refine g_acmp (n := 7) (n' := 5) X0 hx _ (own_ane _ _) rfl rfl (hb hby d2_2) (by decide) (by decide) rfl (fun hc1 => ?_) (fun hc1 => ?_)
  · refine g_aloadN (n := 8) X0 hx (hb hby d2_7) rfl rfl rfl ?_
    refine g_inst (n := 11) X0 hx hZ hown (hw _ (List.mem_of_getElem? (i := 24) rfl)) e0 (Ins.self S2.1) (hb hby d2_8) rfl ?_
    intro T11 X11 e11
    refine g_if (n := 54) (n' := 14) X11 hx _ (own_zeq _) (hb hby d2_11) (by decide) (by decide) rfl (fun hc => absurd hc (by decide)) (fun _ => ?_)
    refine g_aloadN (n := 15) X11 hx (hb hby d2_14) rfl rfl rfl ?_
    refine g_cast (n := 18) X11 hx hZ hown (hw _ (List.mem_of_getElem? (i := 24) rfl)) e11 (Ins.self S2.1) (hb hby d2_15) rfl ?_
    intro T12 X12 e12
    refine g_astoreN (n := 19) X12 hx (hb hby d2_18) rfl rfl #[.val (.ref a1), .val (.ref a2), .val (.ref a2)] rfl ?_
    refine g_getS (n := 22) X12 hx hZ hown (hw _ (List.mem_of_getElem? (i := 26) rfl)) e12 Scs (hb hby d2_19) rfl ?_
    intro T13 X13 e13
    refine g_if (n := 36) (n' := 25) X13 hx _ (own_zeq _) (hb hby d2_22) (by decide) (by decide) rfl (fun hc => absurd hc hcs) (fun _ => ?_)
    refine g_aloadN (n := 26) X13 hx (hb hby d2_25) rfl rfl rfl ?_
    refine g_getF (n := 29) X13 hx hZ hown (hw _ (List.mem_of_getElem? (i := 27) rfl)) e13 S1.2.1 (hb hby d2_26) rfl ?_
    intro T14 X14 e14
    refine g_aloadN (n := 30) X14 hx (hb hby d2_29) rfl rfl rfl ?_
    refine g_getF (n := 33) X14 hx hZ hown (hw _ (List.mem_of_getElem? (i := 27) rfl)) e14 S2.2.1 (hb hby d2_30) rfl ?_
    intro T15 X15 e15
    refine g_icmp (n := 54) (n' := 36) X15 hx _ (own_cne _ _) (hb hby d2_33) (by decide) (by decide) rfl (fun hc => absurd hc (by decide)) (fun _ => ?_)
    refine g_aloadN (n := 37) X15 hx (hb hby d2_36) rfl rfl rfl ?_
    refine g_getF (n := 40) X15 hx hZ hown (hw _ (List.mem_of_getElem? (i := 28) rfl)) e15 S1.2.2.1 (hb hby d2_37) rfl ?_
    intro T16 X16 e16
    refine g_aloadN (n := 41) X16 hx (hb hby d2_40) rfl rfl rfl ?_
    refine g_getF (n := 44) X16 hx hZ hown (hw _ (List.mem_of_getElem? (i := 28) rfl)) e16 S2.2.2.1 (hb hby d2_41) rfl ?_
    intro T17 X17 e17
    refine g_callSP (n := 47) (st := []) X17 hx hZ hown e17 (hw _ (List.mem_of_getElem? (i := 29) rfl)) (hw _ (List.mem_of_getElem? (i := 30) rfl)) (hw _ (List.mem_of_getElem? (i := 31) rfl)) (hw _ (List.mem_of_getElem? (i := 32) rfl)) (by decide) [.ref b1, .ref b2] (rm3 l Z a0 hw b1 b2 n1 n2 f1 f2 h0 S1.2.2.2 S2.2.2.2) pd_0 rfl (hb hby d2_44) rfl (by rw [hml]; rfl) (by decide) 0 (Nat.le_of_eq rfl) (by decide) (by decide) (by decide) ?_
    intro T18 X18 e18
    refine g_if (n := 54) (n' := 50) X18 hx _ (own_zeq _) (hb hby d2_47) (by decide) (by decide) rfl (fun hc3 => ?_) (fun hc3 => ?_)
    · refine g_iconst (n := 55) X18 hx (0 : Int32) (hb hby d2_54) rfl rfl ?_
      refine g_retZ X18 hx (by decide) hret hlk (hb hby d2_55) (Fe.of (by decide) (by decide)) ?_
      try rw [e18]
      exact ⟨by rw [hc3], rfl, rfl⟩
    · refine g_iconst (n := 51) X18 hx (1 : Int32) (hb hby d2_50) rfl rfl ?_
      refine g_goto (n := 55) X18 hx (hb hby d2_51) (by decide) (by decide) ?_
      refine g_retZ X18 hx (by decide) hret hlk (hb hby d2_55) (Fe.of (by decide) (by decide)) ?_
      try rw [e18]
      exact ⟨by rw [(own_eqv01 n1 n2 f1 f2).resolve_left hc3], rfl, rfl⟩
  · have ha : a1 = a2 := by injection (Classical.not_not.mp hc1)
    subst ha
    refine g_iconst (n := 6) X0 hx (1 : Int32) (hb hby d2_5) rfl rfl ?_
    refine g_retZ X0 hx (by decide) hret hlk (hb hby d2_6) (Fe.of (by decide) (by decide)) ?_
    try rw [e0]
    exact ⟨by rw [own_ostr_same S1 S2], rfl, rfl⟩
theorem d1_0 : decode prog_3_method_4_code 0 = .ok (.aload_n 0, 1) := by decide +kernel
theorem d1_1 : decode prog_3_method_4_code 1 = .ok (.getfield 32, 3) := by decide +kernel
theorem d1_4 : decode prog_3_method_4_code 4 = .ok (.areturn, 1) := by decide +kernel
theorem pn_1 : plainFor (⟨"com/example/goalpost/goalpost/accounts/AccountRole", "id", "()Ljava/lang/String;"⟩ : MethodName) = true := by first | (exact plainFor_of_name (by first | (simp [plainName, overriddenIn, x]; done) | decide +kernel)) | decide +kernel
set_option maxRecDepth 65536 in
set_option maxHeartbeats 40000000 in
theorem rm1 (l : Launch) (Z : State) (a0 : Array Value) (hw : ∀ d ∈ tables_1, d.before a0 Z = true) (a1 s1 : Nat) (h0 : Heap) (F : Fld Z h0 a1 "com/example/goalpost/goalpost/accounts/AccountRole" "id" "Ljava/lang/String;" (.ref s1)) :
    OMet l Z (⟨"com/example/goalpost/goalpost/accounts/AccountRole", "id", "()Ljava/lang/String;"⟩ : MethodName) prog_3_method_4_code 1 (some (.object "java/lang/String")) [] ({ frames := 0, cells := 0, slots := 0, locals := 0 } : Room) #[.ref a1] h0 (Pu (.ref s1) h0) := by
  refine own_body (Ls := #[.val (.ref a1)]) pn_1 (fun m => by first | (simp [entryFrame, mkF, argsToLocals, Value.category, maxLocals]; done) | rfl) ?_
  intro p e s m below meth c s₁ X0 hx hby hml hown hnm hret hlk hZ e0
  refine g_aloadN (n := 1) X0 hx (hb hby d1_0) rfl rfl rfl ?_
  refine g_getF (n := 4) X0 hx hZ hown (hw _ (List.mem_of_getElem? (i := 9) rfl)) e0 F (hb hby d1_1) rfl ?_
  intro T11 X11 e11
  refine g_retA X11 hx hret rfl rfl hlk (hb hby d1_4) (Fe.of (by decide) (by decide)) ?_
  try rw [e11]
  exact ⟨rfl, rfl, rfl⟩
theorem d4_0 : decode prog_3_method_5_code 0 = .ok (.aload_n 0, 1) := by decide +kernel
theorem d4_1 : decode prog_3_method_5_code 1 = .ok (.getstatic 7, 3) := by decide +kernel
theorem d4_4 : decode prog_3_method_5_code 4 = .ok (.if_acmp .eq 7, 3) := by decide +kernel
theorem d4_7 : decode prog_3_method_5_code 7 = .ok (.iconst 1, 1) := by decide +kernel
theorem d4_8 : decode prog_3_method_5_code 8 = .ok (.goto 4, 3) := by decide +kernel
theorem d4_11 : decode prog_3_method_5_code 11 = .ok (.iconst 0, 1) := by decide +kernel
theorem d4_12 : decode prog_3_method_5_code 12 = .ok (.ireturn, 1) := by decide +kernel
theorem pn_4 : plainFor (⟨"com/example/goalpost/goalpost/accounts/AccountRole", "records", "()Z"⟩ : MethodName) = true := by first | (exact plainFor_of_name (by first | (simp [plainName, overriddenIn, x]; done) | decide +kernel)) | decide +kernel
set_option maxRecDepth 65536 in
set_option maxHeartbeats 40000000 in
theorem rm4 (l : Launch) (Z : State) (a0 : Array Value) (hw : ∀ d ∈ tables_1, d.before a0 Z = true) (a1 mV : Nat) (h0 : Heap) (SV : Sta Z h0 "com/example/goalpost/goalpost/accounts/AccountRole" "VIEWER" "Lcom/example/goalpost/goalpost/accounts/AccountRole;" (.ref mV)) :
    OMet l Z (⟨"com/example/goalpost/goalpost/accounts/AccountRole", "records", "()Z"⟩ : MethodName) prog_3_method_5_code 1 (some (.boolean)) [] ({ frames := 0, cells := 0, slots := 0, locals := 0 } : Room) #[.ref a1] h0 (Pu (.int (own_rec a1 mV)) h0) := by
  refine own_body (Ls := #[.val (.ref a1)]) pn_4 (fun m => by first | (simp [entryFrame, mkF, argsToLocals, Value.category, maxLocals]; done) | rfl) ?_
  intro p e s m below meth c s₁ X0 hx hby hml hown hnm hret hlk hZ e0
  refine g_aloadN (n := 1) X0 hx (hb hby d4_0) rfl rfl rfl ?_
  refine g_getS (n := 4) X0 hx hZ hown (hw _ (List.mem_of_getElem? (i := 38) rfl)) e0 SV (hb hby d4_1) rfl ?_
  intro T11 X11 e11
  refine g_acmp (n := 11) (n' := 7) X11 hx _ (own_aeq _ _) rfl rfl (hb hby d4_4) (by decide) (by decide) rfl (fun hc1 => ?_) (fun hc1 => ?_)
  · refine g_iconst (n := 12) X11 hx (0 : Int32) (hb hby d4_11) rfl rfl ?_
    refine g_retZ X11 hx (by decide) hret hlk (hb hby d4_12) (Fe.of (by decide) (by decide)) ?_
    try rw [e11]
    exact ⟨by simp_all [own_rec], rfl, rfl⟩
  · refine g_iconst (n := 8) X11 hx (1 : Int32) (hb hby d4_7) rfl rfl ?_
    refine g_goto (n := 12) X11 hx (hb hby d4_8) (by decide) (by decide) ?_
    refine g_retZ X11 hx (by decide) hret hlk (hb hby d4_12) (Fe.of (by decide) (by decide)) ?_
    try rw [e11]
    exact ⟨by simp_all [own_rec], rfl, rfl⟩
theorem pn_0 : plainFor x = true := by first | (exact plainFor_of_name (by first | (simp [plainName, overriddenIn, x]; done) | decide +kernel)) | decide +kernel
set_option maxRecDepth 65536 in
set_option maxHeartbeats 40000000 in
theorem rm0 (l : Launch) (Z : State) (a0 : Array Value) (hw : ∀ d ∈ tables_1, d.before a0 Z = true) (p1 : Int32) (mO sO bO mV sV bV mS sS bS : Nat) (cs : Int32) (Scs : Sta Z Z.heap "java/lang/String" "COMPACT_STRINGS" "Z" (.int cs)) (hcs : ¬ cs = 0) (wS : ∀ a ∈ Bundle.stringAtoms, a.before a0 Z = true) (hcw : Jvm.Lit.compactW.before a0 Z = true) (hh : Jvm.Lit.constHeld Z "com/example/goalpost/goalpost/accounts/AccountRoleRecordsPinLaw" 24) (SO : Sta Z Z.heap "com/example/goalpost/goalpost/accounts/AccountRole" "OFFICER" "Lcom/example/goalpost/goalpost/accounts/AccountRole;" (.ref mO)) (EO : Exa Z Z.heap mO "com/example/goalpost/goalpost/accounts/AccountRole") (FO : Fld Z Z.heap mO "com/example/goalpost/goalpost/accounts/AccountRole" "id" "Ljava/lang/String;" (.ref sO)) (stO : Ostr Z Z.heap sO bO 7 (own_l [111, 102, 102, 105, 99, 101, 114])) (hrO : own_rec mO mV = 1) (SV : Sta Z Z.heap "com/example/goalpost/goalpost/accounts/AccountRole" "VIEWER" "Lcom/example/goalpost/goalpost/accounts/AccountRole;" (.ref mV)) (EV : Exa Z Z.heap mV "com/example/goalpost/goalpost/accounts/AccountRole") (FV : Fld Z Z.heap mV "com/example/goalpost/goalpost/accounts/AccountRole" "id" "Ljava/lang/String;" (.ref sV)) (stV : Ostr Z Z.heap sV bV 6 (own_l [118, 105, 101, 119, 101, 114])) (hrV : own_rec mV mV = 0) (SS : Sta Z Z.heap "com/example/goalpost/goalpost/accounts/AccountRole" "SYSTEM" "Lcom/example/goalpost/goalpost/accounts/AccountRole;" (.ref mS)) (ES : Exa Z Z.heap mS "com/example/goalpost/goalpost/accounts/AccountRole") (FS : Fld Z Z.heap mS "com/example/goalpost/goalpost/accounts/AccountRole" "id" "Ljava/lang/String;" (.ref sS)) (stS : Ostr Z Z.heap sS bS 6 (own_l [115, 121, 115, 116, 101, 109])) (hrS : own_rec mS mV = 1) :
    OMetW l Z x code maxLocals ret tables_1 room_1 #[.int p1] (fun (v : Option Value) (h : Heap) (L : List Loc) => v = some (.int 1) ∧ Fr Z.heap.size L) := by
  refine own_bodyW (Ls := #[.val (.int p1), .unset, .unset, .unset, .unset, .unset]) pn_0 (fun m => by first | (simp [entryFrame, mkF, argsToLocals, Value.category, maxLocals]; done) | rfl) ?_
  intro p e m below meth c s₁ X0 hx hby hml hown hnm hret hlk e0
  have hZ := State.Warmed39.refl Z
  refine g_iloadN (n := 1) X0 hx (hb hby at_0) rfl rfl ?_
  refine g_ldcI (n := 3) X0 hx hZ hown (hw _ (List.mem_of_getElem? (i := 0) rfl)) (hb hby at_1) rfl ?_
  refine g_iand (n := 4) X0 hx (hb hby at_3) rfl ?_
  refine g_iconst (n := 5) X0 hx (3 : Int32) (hb hby at_4) rfl rfl ?_
  refine g_irem (n := 6) X0 hx (hb hby at_5) rfl (by decide) ?_
  rcases own_m3 p1 with h | h | h
  · rw [h]
    refine g_istoreN (n := 7) X0 hx (hb hby at_6) rfl #[.val (.int p1), .val (.int (0 : Int32)), .unset, .unset, .unset, .unset] rfl ?_
    refine g_iloadN (n := 8) X0 hx (hb hby at_7) rfl rfl ?_
    refine g_if (n := 18) (n' := 11) X0 hx _ (own_zne _) (hb hby at_8) (by decide) (by decide) rfl (fun hc => absurd hc (by decide)) (fun _ => ?_)
    refine g_getS (n := 14) X0 hx hZ hown (hw _ (List.mem_of_getElem? (i := 1) rfl)) e0 SO (hb hby at_11) rfl ?_
    intro T11 X11 e11
    refine g_astoreN (n := 15) X11 hx (hb hby at_14) rfl rfl #[.val (.int p1), .val (.int (0 : Int32)), .val (.ref mO), .unset, .unset, .unset] rfl ?_
    refine g_goto (n := 34) X11 hx (hb hby at_15) (by decide) (by decide) ?_
    refine g_iloadN (n := 35) X11 hx (hb hby at_34) rfl rfl ?_
    refine g_iconst (n := 36) X11 hx (1 : Int32) (hb hby at_35) rfl rfl ?_
    refine g_icmp (n := 43) (n' := 39) X11 hx _ (own_ceq _ _) (hb hby at_36) (by decide) (by decide) rfl (fun hc => absurd hc (by decide)) (fun _ => ?_)
    refine g_iconst (n := 40) X11 hx (1 : Int32) (hb hby at_39) rfl rfl ?_
    refine g_goto (n := 44) X11 hx (hb hby at_40) (by decide) (by decide) ?_
    refine g_istoreN (n := 45) X11 hx (hb hby at_44) rfl #[.val (.int p1), .val (.int (0 : Int32)), .val (.ref mO), .val (.int (1 : Int32)), .unset, .unset] rfl ?_
    refine g_aloadN (n := 46) X11 hx (hb hby at_45) rfl rfl rfl ?_
    refine g_callVP (n := 49) (st := []) X11 hx hZ hown e11 (hw _ (List.mem_of_getElem? (i := 4) rfl)) (hw _ (List.mem_of_getElem? (i := 5) rfl)) (notFace_of_selects (args := #[]) (mvT hZ (hw _ (List.mem_of_getElem? (i := 7) rfl)))) (hw _ (List.mem_of_getElem? (i := 7) rfl)) (hw _ (List.mem_of_getElem? (i := 6) rfl)) (hw _ (List.mem_of_getElem? (i := 2) rfl)) (hw _ (List.mem_of_getElem? (i := 8) rfl)) (by decide) mO EO [] (rm1 l Z a0 hw mO sO Z.heap FO) pd_1 rfl (hb hby at_46) rfl (by rw [hml]; rfl) (by decide) 0 (Nat.le_of_eq rfl) (by decide) (by decide) (by decide) ?_
    intro T12 X12 e12
    refine g_ldcS (n := 51) (s := Z) (vm0 := Z.vm) X12 hx hZ hown (hw _ (List.mem_of_getElem? (i := 11) rfl)) wS e12 ((State.WarmedH.refl Z).since 0) (Nat.zero_le _) (Fr.nil _) (fun _ _ q => q) IB.start (by simp) hh hcw [118, 105, 101, 119, 101, 114] (by decide +kernel) (by decide) (by decide) (by decide) (hb hby at_49) rfl 1024 (by decide) (by decide) (by decide) (by decide) ?_
    intro T13 h13 a13 b13 vm13 k13 X13 e13 E13 hS13 hk13 hZ13 hown13 O13
    have hE : own_eqv 7 6 (fun j => ([111, 102, 102, 105, 99, 101, 114] : List Int32).getD j 0) (fun j => ([118, 105, 101, 119, 101, 114] : List Int32).getD j 0) = 0 := by decide
    refine g_callVP (n := 54) (st := []) X13 hx hZ13 hown13 e13 (hw _ (List.mem_of_getElem? (i := 19) rfl)) (hw _ (List.mem_of_getElem? (i := 20) rfl)) (notFace_of_selects (args := #[]) (mvT hZ13 (hw _ (List.mem_of_getElem? (i := 22) rfl)))) (hw _ (List.mem_of_getElem? (i := 22) rfl)) (hw _ (List.mem_of_getElem? (i := 21) rfl)) (hw _ (List.mem_of_getElem? (i := 12) rfl)) (hw _ (List.mem_of_getElem? (i := 23) rfl)) (by decide) sO (stO.ext E13).1 [.ref a13] (rm2 l Z a0 hw sO a13 bO b13 7 6 (fun j => ([111, 102, 102, 105, 99, 101, 114] : List Int32).getD j 0) (fun j => ([118, 105, 101, 119, 101, 114] : List Int32).getD j 0) cs h13 (Scs.ext E13) hcs (stO.ext E13) O13) pd_2 rfl (hb hby at_51) rfl (by rw [hml]; rfl) (by decide) 0 (Nat.le_of_eq rfl) (by decide) (by decide) (by decide) ?_
    intro T14 X14 e14
    rw [hE]
    refine g_if (n := 61) (n' := 57) X14 hx _ (own_zne _) (hb hby at_54) (by decide) (by decide) rfl (fun hc => absurd hc (by decide)) (fun _ => ?_)
    refine g_iconst (n := 58) X14 hx (1 : Int32) (hb hby at_57) rfl rfl ?_
    refine g_goto (n := 62) X14 hx (hb hby at_58) (by decide) (by decide) ?_
    refine g_istore (n := 64) X14 hx (hb hby at_62) rfl #[.val (.int p1), .val (.int (0 : Int32)), .val (.ref mO), .val (.int (1 : Int32)), .val (.int (1 : Int32)), .unset] rfl ?_
    refine g_aloadN (n := 65) X14 hx (hb hby at_64) rfl rfl rfl ?_
    refine g_callVP (n := 68) (st := []) X14 hx hZ13 hown13 e14 (hw _ (List.mem_of_getElem? (i := 33) rfl)) (hw _ (List.mem_of_getElem? (i := 34) rfl)) (notFace_of_selects (args := #[]) (mvT hZ13 (hw _ (List.mem_of_getElem? (i := 36) rfl)))) (hw _ (List.mem_of_getElem? (i := 36) rfl)) (hw _ (List.mem_of_getElem? (i := 35) rfl)) (hw _ (List.mem_of_getElem? (i := 2) rfl)) (hw _ (List.mem_of_getElem? (i := 37) rfl)) (by decide) mO (EO.ext E13) [] (rm4 l Z a0 hw mO mV h13 (SV.ext E13)) pd_3 rfl (hb hby at_65) rfl (by rw [hml]; rfl) (by decide) 0 (Nat.le_of_eq rfl) (by decide) (by decide) (by decide) ?_
    intro T15 X15 e15
    rw [hrO]
    refine g_istore (n := 70) X15 hx (hb hby at_68) rfl #[.val (.int p1), .val (.int (0 : Int32)), .val (.ref mO), .val (.int (1 : Int32)), .val (.int (1 : Int32)), .val (.int (1 : Int32))] rfl ?_
    refine g_iload (n := 72) X15 hx (hb hby at_70) rfl rfl ?_
    refine g_iloadN (n := 73) X15 hx (hb hby at_72) rfl rfl ?_
    refine g_icmp (n := 87) (n' := 76) X15 hx _ (own_cne _ _) (hb hby at_73) (by decide) (by decide) rfl (fun hc => absurd hc (by decide)) (fun _ => ?_)
    refine g_iload (n := 78) X15 hx (hb hby at_76) rfl rfl ?_
    refine g_iload (n := 80) X15 hx (hb hby at_78) rfl rfl ?_
    refine g_icmp (n := 87) (n' := 83) X15 hx _ (own_cne _ _) (hb hby at_80) (by decide) (by decide) rfl (fun hc => absurd hc (by decide)) (fun _ => ?_)
    refine g_iconst (n := 84) X15 hx (1 : Int32) (hb hby at_83) rfl rfl ?_
    refine g_goto (n := 88) X15 hx (hb hby at_84) (by decide) (by decide) ?_
    refine g_retZ X15 hx (by decide) hret hlk (hb hby at_88) (Fw.of hS13 e15 hk13 (by decide) (by decide)) ?_
    try rw [e15]
    exact ⟨rfl, Fr.nil _⟩
  · rw [h]
    refine g_istoreN (n := 7) X0 hx (hb hby at_6) rfl #[.val (.int p1), .val (.int (1 : Int32)), .unset, .unset, .unset, .unset] rfl ?_
    refine g_iloadN (n := 8) X0 hx (hb hby at_7) rfl rfl ?_
    refine g_if (n := 18) (n' := 11) X0 hx _ (own_zne _) (hb hby at_8) (by decide) (by decide) rfl (fun _ => ?_) (fun hc => absurd (by decide) hc)
    refine g_iloadN (n := 19) X0 hx (hb hby at_18) rfl rfl ?_
    refine g_iconst (n := 20) X0 hx (1 : Int32) (hb hby at_19) rfl rfl ?_
    refine g_icmp (n := 30) (n' := 23) X0 hx _ (own_cne _ _) (hb hby at_20) (by decide) (by decide) rfl (fun hc => absurd hc (by decide)) (fun _ => ?_)
    refine g_getS (n := 26) X0 hx hZ hown (hw _ (List.mem_of_getElem? (i := 42) rfl)) e0 SV (hb hby at_23) rfl ?_
    intro T11 X11 e11
    refine g_astoreN (n := 27) X11 hx (hb hby at_26) rfl rfl #[.val (.int p1), .val (.int (1 : Int32)), .val (.ref mV), .unset, .unset, .unset] rfl ?_
    refine g_goto (n := 34) X11 hx (hb hby at_27) (by decide) (by decide) ?_
    refine g_iloadN (n := 35) X11 hx (hb hby at_34) rfl rfl ?_
    refine g_iconst (n := 36) X11 hx (1 : Int32) (hb hby at_35) rfl rfl ?_
    refine g_icmp (n := 43) (n' := 39) X11 hx _ (own_ceq _ _) (hb hby at_36) (by decide) (by decide) rfl (fun _ => ?_) (fun hc => absurd (by decide) hc)
    refine g_iconst (n := 44) X11 hx (0 : Int32) (hb hby at_43) rfl rfl ?_
    refine g_istoreN (n := 45) X11 hx (hb hby at_44) rfl #[.val (.int p1), .val (.int (1 : Int32)), .val (.ref mV), .val (.int (0 : Int32)), .unset, .unset] rfl ?_
    refine g_aloadN (n := 46) X11 hx (hb hby at_45) rfl rfl rfl ?_
    refine g_callVP (n := 49) (st := []) X11 hx hZ hown e11 (hw _ (List.mem_of_getElem? (i := 4) rfl)) (hw _ (List.mem_of_getElem? (i := 5) rfl)) (notFace_of_selects (args := #[]) (mvT hZ (hw _ (List.mem_of_getElem? (i := 7) rfl)))) (hw _ (List.mem_of_getElem? (i := 7) rfl)) (hw _ (List.mem_of_getElem? (i := 6) rfl)) (hw _ (List.mem_of_getElem? (i := 2) rfl)) (hw _ (List.mem_of_getElem? (i := 8) rfl)) (by decide) mV EV [] (rm1 l Z a0 hw mV sV Z.heap FV) pd_1 rfl (hb hby at_46) rfl (by rw [hml]; rfl) (by decide) 0 (Nat.le_of_eq rfl) (by decide) (by decide) (by decide) ?_
    intro T12 X12 e12
    refine g_ldcS (n := 51) (s := Z) (vm0 := Z.vm) X12 hx hZ hown (hw _ (List.mem_of_getElem? (i := 11) rfl)) wS e12 ((State.WarmedH.refl Z).since 0) (Nat.zero_le _) (Fr.nil _) (fun _ _ q => q) IB.start (by simp) hh hcw [118, 105, 101, 119, 101, 114] (by decide +kernel) (by decide) (by decide) (by decide) (hb hby at_49) rfl 1024 (by decide) (by decide) (by decide) (by decide) ?_
    intro T13 h13 a13 b13 vm13 k13 X13 e13 E13 hS13 hk13 hZ13 hown13 O13
    have hE : own_eqv 6 6 (fun j => ([118, 105, 101, 119, 101, 114] : List Int32).getD j 0) (fun j => ([118, 105, 101, 119, 101, 114] : List Int32).getD j 0) = 1 := by decide
    refine g_callVP (n := 54) (st := []) X13 hx hZ13 hown13 e13 (hw _ (List.mem_of_getElem? (i := 19) rfl)) (hw _ (List.mem_of_getElem? (i := 20) rfl)) (notFace_of_selects (args := #[]) (mvT hZ13 (hw _ (List.mem_of_getElem? (i := 22) rfl)))) (hw _ (List.mem_of_getElem? (i := 22) rfl)) (hw _ (List.mem_of_getElem? (i := 21) rfl)) (hw _ (List.mem_of_getElem? (i := 12) rfl)) (hw _ (List.mem_of_getElem? (i := 23) rfl)) (by decide) sV (stV.ext E13).1 [.ref a13] (rm2 l Z a0 hw sV a13 bV b13 6 6 (fun j => ([118, 105, 101, 119, 101, 114] : List Int32).getD j 0) (fun j => ([118, 105, 101, 119, 101, 114] : List Int32).getD j 0) cs h13 (Scs.ext E13) hcs (stV.ext E13) O13) pd_2 rfl (hb hby at_51) rfl (by rw [hml]; rfl) (by decide) 0 (Nat.le_of_eq rfl) (by decide) (by decide) (by decide) ?_
    intro T14 X14 e14
    rw [hE]
    refine g_if (n := 61) (n' := 57) X14 hx _ (own_zne _) (hb hby at_54) (by decide) (by decide) rfl (fun _ => ?_) (fun hc => absurd (by decide) hc)
    refine g_iconst (n := 62) X14 hx (0 : Int32) (hb hby at_61) rfl rfl ?_
    refine g_istore (n := 64) X14 hx (hb hby at_62) rfl #[.val (.int p1), .val (.int (1 : Int32)), .val (.ref mV), .val (.int (0 : Int32)), .val (.int (0 : Int32)), .unset] rfl ?_
    refine g_aloadN (n := 65) X14 hx (hb hby at_64) rfl rfl rfl ?_
    refine g_callVP (n := 68) (st := []) X14 hx hZ13 hown13 e14 (hw _ (List.mem_of_getElem? (i := 33) rfl)) (hw _ (List.mem_of_getElem? (i := 34) rfl)) (notFace_of_selects (args := #[]) (mvT hZ13 (hw _ (List.mem_of_getElem? (i := 36) rfl)))) (hw _ (List.mem_of_getElem? (i := 36) rfl)) (hw _ (List.mem_of_getElem? (i := 35) rfl)) (hw _ (List.mem_of_getElem? (i := 2) rfl)) (hw _ (List.mem_of_getElem? (i := 37) rfl)) (by decide) mV (EV.ext E13) [] (rm4 l Z a0 hw mV mV h13 (SV.ext E13)) pd_3 rfl (hb hby at_65) rfl (by rw [hml]; rfl) (by decide) 0 (Nat.le_of_eq rfl) (by decide) (by decide) (by decide) ?_
    intro T15 X15 e15
    rw [hrV]
    refine g_istore (n := 70) X15 hx (hb hby at_68) rfl #[.val (.int p1), .val (.int (1 : Int32)), .val (.ref mV), .val (.int (0 : Int32)), .val (.int (0 : Int32)), .val (.int (0 : Int32))] rfl ?_
    refine g_iload (n := 72) X15 hx (hb hby at_70) rfl rfl ?_
    refine g_iloadN (n := 73) X15 hx (hb hby at_72) rfl rfl ?_
    refine g_icmp (n := 87) (n' := 76) X15 hx _ (own_cne _ _) (hb hby at_73) (by decide) (by decide) rfl (fun hc => absurd hc (by decide)) (fun _ => ?_)
    refine g_iload (n := 78) X15 hx (hb hby at_76) rfl rfl ?_
    refine g_iload (n := 80) X15 hx (hb hby at_78) rfl rfl ?_
    refine g_icmp (n := 87) (n' := 83) X15 hx _ (own_cne _ _) (hb hby at_80) (by decide) (by decide) rfl (fun hc => absurd hc (by decide)) (fun _ => ?_)
    refine g_iconst (n := 84) X15 hx (1 : Int32) (hb hby at_83) rfl rfl ?_
    refine g_goto (n := 88) X15 hx (hb hby at_84) (by decide) (by decide) ?_
    refine g_retZ X15 hx (by decide) hret hlk (hb hby at_88) (Fw.of hS13 e15 hk13 (by decide) (by decide)) ?_
    try rw [e15]
    exact ⟨rfl, Fr.nil _⟩
  · rw [h]
    refine g_istoreN (n := 7) X0 hx (hb hby at_6) rfl #[.val (.int p1), .val (.int (2 : Int32)), .unset, .unset, .unset, .unset] rfl ?_
    refine g_iloadN (n := 8) X0 hx (hb hby at_7) rfl rfl ?_
    refine g_if (n := 18) (n' := 11) X0 hx _ (own_zne _) (hb hby at_8) (by decide) (by decide) rfl (fun _ => ?_) (fun hc => absurd (by decide) hc)
    refine g_iloadN (n := 19) X0 hx (hb hby at_18) rfl rfl ?_
    refine g_iconst (n := 20) X0 hx (1 : Int32) (hb hby at_19) rfl rfl ?_
    refine g_icmp (n := 30) (n' := 23) X0 hx _ (own_cne _ _) (hb hby at_20) (by decide) (by decide) rfl (fun _ => ?_) (fun hc => absurd (by decide) hc)
    refine g_getS (n := 33) X0 hx hZ hown (hw _ (List.mem_of_getElem? (i := 40) rfl)) e0 SS (hb hby at_30) rfl ?_
    intro T11 X11 e11
    refine g_astoreN (n := 34) X11 hx (hb hby at_33) rfl rfl #[.val (.int p1), .val (.int (2 : Int32)), .val (.ref mS), .unset, .unset, .unset] rfl ?_
    refine g_iloadN (n := 35) X11 hx (hb hby at_34) rfl rfl ?_
    refine g_iconst (n := 36) X11 hx (1 : Int32) (hb hby at_35) rfl rfl ?_
    refine g_icmp (n := 43) (n' := 39) X11 hx _ (own_ceq _ _) (hb hby at_36) (by decide) (by decide) rfl (fun hc => absurd hc (by decide)) (fun _ => ?_)
    refine g_iconst (n := 40) X11 hx (1 : Int32) (hb hby at_39) rfl rfl ?_
    refine g_goto (n := 44) X11 hx (hb hby at_40) (by decide) (by decide) ?_
    refine g_istoreN (n := 45) X11 hx (hb hby at_44) rfl #[.val (.int p1), .val (.int (2 : Int32)), .val (.ref mS), .val (.int (1 : Int32)), .unset, .unset] rfl ?_
    refine g_aloadN (n := 46) X11 hx (hb hby at_45) rfl rfl rfl ?_
    refine g_callVP (n := 49) (st := []) X11 hx hZ hown e11 (hw _ (List.mem_of_getElem? (i := 4) rfl)) (hw _ (List.mem_of_getElem? (i := 5) rfl)) (notFace_of_selects (args := #[]) (mvT hZ (hw _ (List.mem_of_getElem? (i := 7) rfl)))) (hw _ (List.mem_of_getElem? (i := 7) rfl)) (hw _ (List.mem_of_getElem? (i := 6) rfl)) (hw _ (List.mem_of_getElem? (i := 2) rfl)) (hw _ (List.mem_of_getElem? (i := 8) rfl)) (by decide) mS ES [] (rm1 l Z a0 hw mS sS Z.heap FS) pd_1 rfl (hb hby at_46) rfl (by rw [hml]; rfl) (by decide) 0 (Nat.le_of_eq rfl) (by decide) (by decide) (by decide) ?_
    intro T12 X12 e12
    refine g_ldcS (n := 51) (s := Z) (vm0 := Z.vm) X12 hx hZ hown (hw _ (List.mem_of_getElem? (i := 11) rfl)) wS e12 ((State.WarmedH.refl Z).since 0) (Nat.zero_le _) (Fr.nil _) (fun _ _ q => q) IB.start (by simp) hh hcw [118, 105, 101, 119, 101, 114] (by decide +kernel) (by decide) (by decide) (by decide) (hb hby at_49) rfl 1024 (by decide) (by decide) (by decide) (by decide) ?_
    intro T13 h13 a13 b13 vm13 k13 X13 e13 E13 hS13 hk13 hZ13 hown13 O13
    have hE : own_eqv 6 6 (fun j => ([115, 121, 115, 116, 101, 109] : List Int32).getD j 0) (fun j => ([118, 105, 101, 119, 101, 114] : List Int32).getD j 0) = 0 := by decide
    refine g_callVP (n := 54) (st := []) X13 hx hZ13 hown13 e13 (hw _ (List.mem_of_getElem? (i := 19) rfl)) (hw _ (List.mem_of_getElem? (i := 20) rfl)) (notFace_of_selects (args := #[]) (mvT hZ13 (hw _ (List.mem_of_getElem? (i := 22) rfl)))) (hw _ (List.mem_of_getElem? (i := 22) rfl)) (hw _ (List.mem_of_getElem? (i := 21) rfl)) (hw _ (List.mem_of_getElem? (i := 12) rfl)) (hw _ (List.mem_of_getElem? (i := 23) rfl)) (by decide) sS (stS.ext E13).1 [.ref a13] (rm2 l Z a0 hw sS a13 bS b13 6 6 (fun j => ([115, 121, 115, 116, 101, 109] : List Int32).getD j 0) (fun j => ([118, 105, 101, 119, 101, 114] : List Int32).getD j 0) cs h13 (Scs.ext E13) hcs (stS.ext E13) O13) pd_2 rfl (hb hby at_51) rfl (by rw [hml]; rfl) (by decide) 0 (Nat.le_of_eq rfl) (by decide) (by decide) (by decide) ?_
    intro T14 X14 e14
    rw [hE]
    refine g_if (n := 61) (n' := 57) X14 hx _ (own_zne _) (hb hby at_54) (by decide) (by decide) rfl (fun hc => absurd hc (by decide)) (fun _ => ?_)
    refine g_iconst (n := 58) X14 hx (1 : Int32) (hb hby at_57) rfl rfl ?_
    refine g_goto (n := 62) X14 hx (hb hby at_58) (by decide) (by decide) ?_
    refine g_istore (n := 64) X14 hx (hb hby at_62) rfl #[.val (.int p1), .val (.int (2 : Int32)), .val (.ref mS), .val (.int (1 : Int32)), .val (.int (1 : Int32)), .unset] rfl ?_
    refine g_aloadN (n := 65) X14 hx (hb hby at_64) rfl rfl rfl ?_
    refine g_callVP (n := 68) (st := []) X14 hx hZ13 hown13 e14 (hw _ (List.mem_of_getElem? (i := 33) rfl)) (hw _ (List.mem_of_getElem? (i := 34) rfl)) (notFace_of_selects (args := #[]) (mvT hZ13 (hw _ (List.mem_of_getElem? (i := 36) rfl)))) (hw _ (List.mem_of_getElem? (i := 36) rfl)) (hw _ (List.mem_of_getElem? (i := 35) rfl)) (hw _ (List.mem_of_getElem? (i := 2) rfl)) (hw _ (List.mem_of_getElem? (i := 37) rfl)) (by decide) mS (ES.ext E13) [] (rm4 l Z a0 hw mS mV h13 (SV.ext E13)) pd_3 rfl (hb hby at_65) rfl (by rw [hml]; rfl) (by decide) 0 (Nat.le_of_eq rfl) (by decide) (by decide) (by decide) ?_
    intro T15 X15 e15
    rw [hrS]
    refine g_istore (n := 70) X15 hx (hb hby at_68) rfl #[.val (.int p1), .val (.int (2 : Int32)), .val (.ref mS), .val (.int (1 : Int32)), .val (.int (1 : Int32)), .val (.int (1 : Int32))] rfl ?_
    refine g_iload (n := 72) X15 hx (hb hby at_70) rfl rfl ?_
    refine g_iloadN (n := 73) X15 hx (hb hby at_72) rfl rfl ?_
    refine g_icmp (n := 87) (n' := 76) X15 hx _ (own_cne _ _) (hb hby at_73) (by decide) (by decide) rfl (fun hc => absurd hc (by decide)) (fun _ => ?_)
    refine g_iload (n := 78) X15 hx (hb hby at_76) rfl rfl ?_
    refine g_iload (n := 80) X15 hx (hb hby at_78) rfl rfl ?_
    refine g_icmp (n := 87) (n' := 83) X15 hx _ (own_cne _ _) (hb hby at_80) (by decide) (by decide) rfl (fun hc => absurd hc (by decide)) (fun _ => ?_)
    refine g_iconst (n := 84) X15 hx (1 : Int32) (hb hby at_83) rfl rfl ?_
    refine g_goto (n := 88) X15 hx (hb hby at_84) (by decide) (by decide) ?_
    refine g_retZ X15 hx (by decide) hret hlk (hb hby at_88) (Fw.of hS13 e15 hk13 (by decide) (by decide)) ?_
    try rw [e15]
    exact ⟨rfl, Fr.nil _⟩
set_option maxRecDepth 65536 in
set_option maxHeartbeats 40000000 in
theorem comes_1 {Post : Tables → Env → Array Value → State → Outcome → State → Prop} (hpost : ∀ tb e args s v u, (limb_1_1.after args s (.returned v) u = true ∧ limb_1_2.after args s (.returned v) u = true ∧ True) → ReturnedEndW s (.returned v) u (Jvm.fieldLocs frame_1_writes args s ++ Jvm.arrayLocs frame_1_arrays args s ++ Jvm.staticLocs frame_1_statics s) 8 1088 → Post tb e args s (.returned v) u) :
    ArmFor flags0 classFile x code maxLocals ret World_1 tables_1 room_1 Calls_1 rest_1 Pre_1 Post := by
  intro l hfl _ _ p e ha hc hk s m args below hf hA hF happ hP
  obtain ⟨hcalls, hrest, hpre⟩ := hP
  obtain ⟨-, -, -, hnamed, -, -, -, hat⟩ := (Spec.applies_iff hf).mp happ
  obtain ⟨hg, hn⟩ := and_e (Cond.before_iff.mp (show (Jvm.Cond.and given_1 narrow_1).before args s = true from hpre))
  obtain ⟨h1, hg1⟩ := and_e hg
  obtain ⟨w0, rfl⟩ : ∃ w0 : Value, args = #[w0] := by
    have hs : args.size = 1 := by simpa [Cond.value, given_1] using h1
    obtain ⟨L⟩ := args
    match L, hs with
    | [w0], _ => exact ⟨w0, rfl⟩
  have hw := fun d (hd : d ∈ tables_1) => atoms_spec (ws := Jvm.Cond.code x code maxLocals ret :: tables_1) hat d (List.mem_cons_of_mem _ hd)
  have hfit : Fit s := fun {y c} hc i hi => by
    obtain ⟨ha, rfl⟩ := Array.getElem?_eq_some_iff.mp hc
    have q := List.all_eq_true.mp ((Array.all_eq_true_iff_forall_mem.mp hF) _ (Array.getElem_mem ha)) i (List.mem_range.mpr hi)
    simpa [Array.getElem?_eq_getElem hi] using q
  obtain ⟨i0, e0⟩ := is_v hg1
  obtain rfl : w0 = (.int i0) := Option.some.inj e0
  obtain ⟨n0, m0⟩ := and_e hn
  obtain ⟨n1, m1⟩ := and_e m0
  obtain ⟨n2, m2⟩ := and_e m1
  obtain ⟨n3, m3⟩ := and_e m2
  obtain ⟨n4, m4⟩ := and_e m3
  obtain ⟨n5, m5⟩ := and_e m4
  obtain ⟨n6, m6⟩ := and_e m5
  obtain ⟨n7, m7⟩ := and_e m6
  obtain ⟨n8, m8⟩ := and_e m7
  obtain ⟨n9, m9⟩ := and_e m8
  obtain ⟨n10, m10⟩ := and_e m9
  obtain ⟨n11, m11⟩ := and_e m10
  obtain ⟨n12, m12⟩ := and_e m11
  obtain ⟨n13, m13⟩ := and_e m12
  obtain ⟨n14, m14⟩ := and_e m13
  obtain ⟨n15, m15⟩ := and_e m14
  obtain ⟨n16, m16⟩ := and_e m15
  obtain ⟨n17, m17⟩ := and_e m16
  obtain ⟨n18, m18⟩ := and_e m17
  obtain ⟨n19, m19⟩ := and_e m18
  obtain ⟨n20, m20⟩ := and_e m19
  obtain ⟨n21, m21⟩ := and_e m20
  obtain ⟨n22, m22⟩ := and_e m21
  obtain ⟨n23, m23⟩ := and_e m22
  obtain ⟨n24, m24⟩ := and_e m23
  obtain ⟨n25, m25⟩ := and_e m24
  obtain ⟨n26, m26⟩ := and_e m25
  obtain ⟨n27, m27⟩ := and_e m26
  obtain ⟨n28, m28⟩ := and_e m27
  obtain ⟨n29, m29⟩ := and_e m28
  obtain ⟨n30, m30⟩ := and_e m29
  obtain ⟨n31, m31⟩ := and_e m30
  obtain ⟨n32, m32⟩ := and_e m31
  obtain ⟨n33, m33⟩ := and_e m32
  obtain ⟨n34, m34⟩ := and_e m33
  obtain ⟨n35, m35⟩ := and_e m34
  have n36 := m35
  obtain ⟨mO, evO, SO, EO⟩ := own_sta n0 (hw _ (List.mem_of_getElem? (i := 2) rfl)) (hw _ (List.mem_of_getElem? (i := 3) rfl))
  obtain ⟨sO, evsO, FO, EsO⟩ := own_fldE evO n1
  obtain ⟨bO, gO, -, FvO, AO, gvO⟩ := own_arr evsO n3 n4 (n := 7) rfl (by decide)
  have stO : Ostr s s.heap sO bO 7 gO := ⟨EsO, own_fldI evsO n2, FvO, AO⟩
  have vO0 : gO 0 = .int 111 := gvO 0 _ _ rfl (by decide) n18
  have vO1 : gO 1 = .int 102 := gvO 1 _ _ rfl (by decide) n19
  have vO2 : gO 2 = .int 102 := gvO 2 _ _ rfl (by decide) n20
  have vO3 : gO 3 = .int 105 := gvO 3 _ _ rfl (by decide) n21
  have vO4 : gO 4 = .int 99 := gvO 4 _ _ rfl (by decide) n22
  have vO5 : gO 5 = .int 101 := gvO 5 _ _ rfl (by decide) n23
  have vO6 : gO 6 = .int 114 := gvO 6 _ _ rfl (by decide) n24
  have OO := own_fldI evO n6
  obtain ⟨mV, evV, SV, EV⟩ := own_sta n5 (hw _ (List.mem_of_getElem? (i := 2) rfl)) (hw _ (List.mem_of_getElem? (i := 39) rfl))
  obtain ⟨sV, evsV, FV, EsV⟩ := own_fldE evV n14
  obtain ⟨bV, gV, -, FvV, AV, gvV⟩ := own_arr evsV n16 n17 (n := 6) rfl (by decide)
  have stV : Ostr s s.heap sV bV 6 gV := ⟨EsV, own_fldI evsV n15, FvV, AV⟩
  have vV0 : gV 0 = .int 118 := gvV 0 _ _ rfl (by decide) n31
  have vV1 : gV 1 = .int 105 := gvV 1 _ _ rfl (by decide) n32
  have vV2 : gV 2 = .int 101 := gvV 2 _ _ rfl (by decide) n33
  have vV3 : gV 3 = .int 119 := gvV 3 _ _ rfl (by decide) n34
  have vV4 : gV 4 = .int 101 := gvV 4 _ _ rfl (by decide) n35
  have vV5 : gV 5 = .int 114 := gvV 5 _ _ rfl (by decide) n36
  have OV := own_fldI evV n7
  obtain ⟨mS, evS, SS, ES⟩ := own_sta n8 (hw _ (List.mem_of_getElem? (i := 2) rfl)) (hw _ (List.mem_of_getElem? (i := 41) rfl))
  obtain ⟨sS, evsS, FS, EsS⟩ := own_fldE evS n9
  obtain ⟨bS, gS, -, FvS, AS, gvS⟩ := own_arr evsS n11 n12 (n := 6) rfl (by decide)
  have stS : Ostr s s.heap sS bS 6 gS := ⟨EsS, own_fldI evsS n10, FvS, AS⟩
  have vS0 : gS 0 = .int 115 := gvS 0 _ _ rfl (by decide) n25
  have vS1 : gS 1 = .int 121 := gvS 1 _ _ rfl (by decide) n26
  have vS2 : gS 2 = .int 115 := gvS 2 _ _ rfl (by decide) n27
  have vS3 : gS 3 = .int 116 := gvS 3 _ _ rfl (by decide) n28
  have vS4 : gS 4 = .int 101 := gvS 4 _ _ rfl (by decide) n29
  have vS5 : gS 5 = .int 109 := gvS 5 _ _ rfl (by decide) n30
  have OS := own_fldI evS n13
  have slO : Ostr s s.heap sO bO 7 (own_l [111, 102, 102, 105, 99, 101, 114]) := ⟨stO.1, stO.2.1, stO.2.2.1, stO.2.2.2.congr (fun j hj => by
    match j, hj with
    | 0, _ => exact vO0
    | 1, _ => exact vO1
    | 2, _ => exact vO2
    | 3, _ => exact vO3
    | 4, _ => exact vO4
    | 5, _ => exact vO5
    | 6, _ => exact vO6)⟩
  have slV : Ostr s s.heap sV bV 6 (own_l [118, 105, 101, 119, 101, 114]) := ⟨stV.1, stV.2.1, stV.2.2.1, stV.2.2.2.congr (fun j hj => by
    match j, hj with
    | 0, _ => exact vV0
    | 1, _ => exact vV1
    | 2, _ => exact vV2
    | 3, _ => exact vV3
    | 4, _ => exact vV4
    | 5, _ => exact vV5)⟩
  have slS : Ostr s s.heap sS bS 6 (own_l [115, 121, 115, 116, 101, 109]) := ⟨stS.1, stS.2.1, stS.2.2.1, stS.2.2.2.congr (fun j hj => by
    match j, hj with
    | 0, _ => exact vS0
    | 1, _ => exact vS1
    | 2, _ => exact vS2
    | 3, _ => exact vS3
    | 4, _ => exact vS4
    | 5, _ => exact vS5)⟩
  have dOV : mO ≠ mV := OO.ne OV (by decide)
  have dSV : mS ≠ mV := OS.ne OV (by decide)
  obtain ⟨hsets, hown0⟩ := atoms_of _ (rest_1_c_eq ▸ (show rest_1_c.before _ s = true from hrest))
  have hcw := hsets _ (List.mem_of_getElem? (i := 2) rfl)
  have n5 := not_v (Cond.before_iff.mp hcw)
  obtain ⟨cs, ecs⟩ := is_v (Cond.before_iff.mp (hsets _ (List.mem_of_getElem? (i := 1) rfl)))
  have Scs : Sta s s.heap "java/lang/String" "COMPACT_STRINGS" "Z" (.int cs) := Sta.start ecs (Or.inl (hsets _ (List.mem_of_getElem? (i := 0) rfl)))
  have hcs : ¬ (cs = (0 : Int32)) := gotF (Cond.eq_ints ecs (Term.int_eval (0))) n5
  have wS : ∀ a ∈ Bundle.stringAtoms, a.before #[.int i0] s = true := fun d hd => hw d (by simpa using (List.all_eq_true.mp (by decide +kernel : (Bundle.stringAtoms.all fun d => tables_1.contains d) = true)) d hd)
  have hh : Jvm.Lit.constHeld s "com/example/goalpost/goalpost/accounts/AccountRoleRecordsPinLaw" 24 := hcalls.1 ("com/example/goalpost/goalpost/accounts/AccountRoleRecordsPinLaw", 24) (by simp [consts_1])
  obtain ⟨n, o, h1, h2, h3, _, L, rfl, ⟨rfl, N⟩, hq⟩ := rm0 l s _ hw i0 mO sO bO mV sV bV mS sS bS cs Scs hcs wS hcw hh SO EO FO slO (by simp [own_rec, dOV]) SV EV FV slV (by simp [own_rec]) SS ES FS slS (by simp [own_rec, dSV]) p e ha hc hk s m _ below hf ((Spec.applies_iff_loose hf).mp happ).1 ⟨rfl, rfl⟩ trivial
  refine ⟨n, _, h1, h2, h3, hpost _ _ _ _ _ _ ⟨Cond.after_iff.mpr rfl, Cond.after_iff.mpr (eq_i res_at (Term.int_eval (1)) rfl), trivial⟩ ⟨hq.1, hq.2.1, hq.2.2.1, (hq.2.2.2.sift fun y hy => Or.inr (N y hy)).mono (by decide) (by decide)⟩⟩
theorem main_1_1 : Claimed_1_1 := comes_1 fun _ _ _ _ _ _ h hF => ⟨h.1, hF⟩
theorem main_1_2 : Claimed_1_2 := comes_1 fun _ _ _ _ _ _ h hF => ⟨h.2.1, hF⟩


end Jvm.Pilot.@@N@@
namespace Jvm.Pilot.@@N@@
open Jvm Jvm.ClassFile Sem Op Lib Jvm.Free Jvm.Stand Jvm.Pilot.@@N@@.Jvm.D
/-! MADE BY PROGRAM (witnessworld.py) out of the Statement's table words and the real class files: 19 classes; the members and pool entries that the words name. The judged class is class 1, her method 1. -/
namespace start1
open Jvm.ClassFile
def u (s : String) : CpInfo := .utf8 (stringToUtf16 s)
/-- a pool by its gaps: so many unusable entries, then the entry; so many at the end -/
def gap : Nat → List CpInfo → List CpInfo
  | 0, r => r
  | n + 1, r => .unusable :: gap n r
def poolList (es : List (Nat × CpInfo)) (last : Nat) : List CpInfo := es.foldr (fun e r => gap e.1 (e.2 :: r)) (gap last [])
def pool (es : List (Nat × CpInfo)) (last : Nat) : Array CpInfo := ⟨poolList es last⟩
def fileOf (pool : Array CpInfo) (this : Nat) (attrs : Array Attribute := #[]) (ms : Array MethodInfo := #[]) (fl : Nat := 33) (sup : Nat := 0) (ifs : Array Nat := #[]) (fds : Array FieldInfo := #[]) : ClassFile where
  minorVersion := 0
  majorVersion := 65
  constantPool := pool
  accessFlags := fl
  thisClass := this
  superClass := sup
  interfaces := ifs
  fields := fds
  methods := ms
  attributes := attrs
def plain (name : String) (sup : Option ClassId) : Class where
  name := name
  kind := .ordinary
  loader := none
  accessFlags := 33
  super := sup
  interfaces := #[]
  cf := none
  fields := #[]
  methods := #[]
  instanceTypes := #[]
  staticTypes := #[]
  resolved := #[]
  callSites := []
  init := .initialized
  statics := none
  mirror := none

def pool0 : Array CpInfo := pool [(5, u "<init>"), (0, u "()V"), (1, .class_ 10), (1, u "java/lang/Object")] 113

def k0m0 : Method := { name := "<init>", desc := "()V", sig := { parameters := [], returnType := none }, accessFlags := 1, code := none }
/-- java/lang/Object -/
def k0 : Class := { plain "java/lang/Object" none with
  accessFlags := 33
  interfaces := #[]
  cf := some (fileOf pool0 8 #[] #[{ accessFlags := 1, nameIndex := 5, descriptorIndex := 6, attributes := #[] }] 33 0 #[] #[])
  fields := #[]
  methods := #[k0m0]
  instanceTypes := #[]
  staticTypes := #[]
  resolved := Array.replicate 124 none
  statics := none }

def pool1 : Array CpInfo := pool [(2, .class_ 4), (1, u "java/lang/Object"), (0, u "<init>"), (0, u "()V"), (0, .integer 2147483647), (0, .fieldref 9 10), (0, .class_ 11), (0, .nameAndType 12 13), (0, u "com/example/goalpost/goalpost/accounts/AccountRole"), (0, u "OFFICER"), (0, u "Lcom/example/goalpost/goalpost/accounts/AccountRole;"), (0, .fieldref 9 15), (0, .nameAndType 16 13), (0, u "VIEWER"), (0, .fieldref 9 18), (0, .nameAndType 19 13), (0, u "SYSTEM"), (0, .methodref 9 21), (0, .nameAndType 22 23), (0, u "id"), (0, u "()Ljava/lang/String;"), (0, .string 25), (0, u "viewer"), (0, .methodref 27 28), (0, .class_ 29), (0, .nameAndType 30 31), (0, u "java/lang/String"), (0, u "equals"), (0, u "(Ljava/lang/Object;)Z"), (0, .methodref 9 33), (0, .nameAndType 34 35), (0, u "records"), (0, u "()Z"), (0, .class_ 37), (0, u "com/example/goalpost/goalpost/accounts/AccountRoleRecordsPinLaw"), (2, u "law"), (0, u "(I)Z")] 3

def k1m0 : Method := { name := "<init>", desc := "()V", sig := { parameters := [], returnType := none }, accessFlags := 2, code := none }
def k1c1 : Code := { maxStack := 2, maxLocals := 6, code := code, exceptionTable := #[], attributes := #[] }
def k1m1 : Method := { name := "law", desc := "(I)Z", sig := { parameters := [.int], returnType := some .boolean }, accessFlags := 9, code := some k1c1 }
/-- com/example/goalpost/goalpost/accounts/AccountRoleRecordsPinLaw -/
def k1 : Class := { plain "com/example/goalpost/goalpost/accounts/AccountRoleRecordsPinLaw" (some 0) with
  accessFlags := 49
  interfaces := #[]
  cf := some (fileOf pool1 36 #[] #[{ accessFlags := 2, nameIndex := 5, descriptorIndex := 6, attributes := #[] }, { accessFlags := 9, nameIndex := 40, descriptorIndex := 41, attributes := #[] }] 49 2 #[] #[])
  fields := #[]
  methods := #[k1m0, k1m1]
  instanceTypes := #[]
  staticTypes := #[]
  resolved := Array.replicate 45 none
  statics := none }

def pool2 : Array CpInfo := pool [(1, .class_ 2), (0, u "java/lang/constant/Constable"), (0, .class_ 4), (0, u "java/lang/Object")] 6

/-- java/lang/constant/Constable -/
def k2 : Class := { plain "java/lang/constant/Constable" (some 0) with
  accessFlags := 1537
  interfaces := #[]
  cf := some (fileOf pool2 1 #[] #[] 1537 3 #[] #[])
  fields := #[]
  methods := #[]
  instanceTypes := #[]
  staticTypes := #[]
  resolved := Array.replicate 11 none
  statics := none }

def pool3 : Array CpInfo := pool [(1, .class_ 2), (0, u "java/lang/Comparable"), (0, .class_ 4), (0, u "java/lang/Object")] 7

/-- java/lang/Comparable -/
def k3 : Class := { plain "java/lang/Comparable" (some 0) with
  accessFlags := 1537
  interfaces := #[]
  cf := some (fileOf pool3 1 #[] #[] 1537 3 #[] #[])
  fields := #[]
  methods := #[]
  instanceTypes := #[]
  staticTypes := #[]
  resolved := Array.replicate 12 none
  statics := none }

def pool4 : Array CpInfo := pool [(1, .class_ 2), (0, u "java/io/Serializable"), (0, .class_ 4), (0, u "java/lang/Object")] 2

/-- java/io/Serializable -/
def k4 : Class := { plain "java/io/Serializable" (some 0) with
  accessFlags := 1537
  interfaces := #[]
  cf := some (fileOf pool4 1 #[] #[] 1537 3 #[] #[])
  fields := #[]
  methods := #[]
  instanceTypes := #[]
  staticTypes := #[]
  resolved := Array.replicate 7 none
  statics := none }

def pool5 : Array CpInfo := pool [(2, .class_ 4), (1, u "java/lang/Enum"), (0, u "name"), (0, u "Ljava/lang/String;"), (2, u "ordinal"), (0, u "I"), (1, .class_ 14), (1, u "java/lang/Object"), (4, u "hash"), (86, .class_ 108), (1, u "java/lang/Enum$EnumDesc"), (2, .class_ 112), (0, u "java/lang/constant/Constable"), (0, .class_ 114), (0, u "java/lang/Comparable"), (0, .class_ 116), (0, u "java/io/Serializable")] 87

/-- java/lang/Enum -/
def k5 : Class := { plain "java/lang/Enum" (some 0) with
  accessFlags := 1057
  interfaces := #[2, 3, 4]
  cf := some (fileOf pool5 2 #[.nestMembers #[106]] #[] 1057 12 #[111, 113, 115] #[{ accessFlags := 18, nameIndex := 5, descriptorIndex := 6, attributes := #[] }, { accessFlags := 18, nameIndex := 9, descriptorIndex := 10, attributes := #[] }, { accessFlags := 2, nameIndex := 19, descriptorIndex := 10, attributes := #[] }])
  fields := #[{ name := "name", type := (.object "java/lang/String"), accessFlags := 18, slot := 0, constantValue := 0 }, { name := "ordinal", type := .int, accessFlags := 18, slot := 1, constantValue := 0 }, { name := "hash", type := .int, accessFlags := 2, slot := 2, constantValue := 0 }]
  methods := #[]
  instanceTypes := #[(.object "java/lang/String"), .int, .int]
  staticTypes := #[]
  resolved := Array.replicate 204 none
  statics := none }

def pool6 : Array CpInfo := pool [(17, .class_ 18), (0, u "com/example/goalpost/goalpost/input/Choice"), (50, .class_ 70), (0, u "java/lang/Object")] 36

/-- com/example/goalpost/goalpost/input/Choice -/
def k6 : Class := { plain "com/example/goalpost/goalpost/input/Choice" (some 0) with
  accessFlags := 1537
  interfaces := #[]
  cf := some (fileOf pool6 17 #[] #[] 1537 69 #[] #[])
  fields := #[]
  methods := #[]
  instanceTypes := #[]
  staticTypes := #[]
  resolved := Array.replicate 107 none
  statics := none }

def pool7 : Array CpInfo := pool [(1, .class_ 2), (0, u "com/example/goalpost/goalpost/accounts/AccountRole"), (2, u "OFFICER"), (0, u "Lcom/example/goalpost/goalpost/accounts/AccountRole;"), (0, .fieldref 1 8), (0, .nameAndType 9 6), (0, u "VIEWER"), (2, u "SYSTEM"), (2, u "$VALUES"), (0, u "[Lcom/example/goalpost/goalpost/accounts/AccountRole;"), (6, .class_ 25), (1, u "java/lang/Enum"), (6, .fieldref 1 33), (0, .nameAndType 34 35), (0, u "id"), (0, u "Ljava/lang/String;"), (16, .class_ 53), (0, u "com/example/goalpost/goalpost/input/Choice"), (7, u "()Ljava/lang/String;"), (0, u "records"), (0, u "()Z")] 6

def k7c0 : Code := { maxStack := 1, maxLocals := 1, code := prog_3_method_4_code, exceptionTable := #[], attributes := #[] }
def k7m0 : Method := { name := "id", desc := "()Ljava/lang/String;", sig := { parameters := [], returnType := some (.object "java/lang/String") }, accessFlags := 1, code := some k7c0 }
def k7c1 : Code := { maxStack := 2, maxLocals := 1, code := prog_3_method_5_code, exceptionTable := #[], attributes := #[] }
def k7m1 : Method := { name := "records", desc := "()Z", sig := { parameters := [], returnType := some .boolean }, accessFlags := 1, code := some k7c1 }
/-- com/example/goalpost/goalpost/accounts/AccountRole -/
def k7 : Class := { plain "com/example/goalpost/goalpost/accounts/AccountRole" (some 5) with
  accessFlags := 16433
  interfaces := #[6]
  cf := some (fileOf pool7 1 #[] #[{ accessFlags := 1, nameIndex := 34, descriptorIndex := 61, attributes := #[] }, { accessFlags := 1, nameIndex := 62, descriptorIndex := 63, attributes := #[] }] 16433 23 #[52] #[{ accessFlags := 16409, nameIndex := 5, descriptorIndex := 6, attributes := #[] }, { accessFlags := 16409, nameIndex := 9, descriptorIndex := 6, attributes := #[] }, { accessFlags := 16409, nameIndex := 12, descriptorIndex := 6, attributes := #[] }, { accessFlags := 18, nameIndex := 34, descriptorIndex := 35, attributes := #[] }, { accessFlags := 4122, nameIndex := 15, descriptorIndex := 16, attributes := #[] }])
  fields := #[{ name := "OFFICER", type := (.object "com/example/goalpost/goalpost/accounts/AccountRole"), accessFlags := 16409, slot := 0, constantValue := 0 }, { name := "VIEWER", type := (.object "com/example/goalpost/goalpost/accounts/AccountRole"), accessFlags := 16409, slot := 1, constantValue := 0 }, { name := "SYSTEM", type := (.object "com/example/goalpost/goalpost/accounts/AccountRole"), accessFlags := 16409, slot := 2, constantValue := 0 }, { name := "id", type := (.object "java/lang/String"), accessFlags := 18, slot := 3, constantValue := 0 }, { name := "$VALUES", type := (.array (.object "com/example/goalpost/goalpost/accounts/AccountRole")), accessFlags := 4122, slot := 3, constantValue := 0 }]
  methods := #[k7m0, k7m1]
  instanceTypes := #[(.object "java/lang/String"), .int, .int, (.object "java/lang/String")]
  staticTypes := #[(.object "com/example/goalpost/goalpost/accounts/AccountRole"), (.object "com/example/goalpost/goalpost/accounts/AccountRole"), (.object "com/example/goalpost/goalpost/accounts/AccountRole"), (.array (.object "com/example/goalpost/goalpost/accounts/AccountRole"))]
  resolved := Array.replicate 70 none
  statics := some 0 }

def pool8 : Array CpInfo := pool [(2, .class_ 4), (1, u "java/lang/CharSequence"), (42, .class_ 48), (0, u "java/lang/CharSequence$1CodePointIterator"), (10, .class_ 60), (0, u "java/lang/CharSequence$1CharIterator"), (5, .class_ 67), (0, u "java/lang/Object")] 63

/-- java/lang/CharSequence -/
def k8 : Class := { plain "java/lang/CharSequence" (some 0) with
  accessFlags := 1537
  interfaces := #[]
  cf := some (fileOf pool8 2 #[.nestMembers #[47, 59]] #[] 1537 66 #[] #[])
  fields := #[]
  methods := #[]
  instanceTypes := #[]
  staticTypes := #[]
  resolved := Array.replicate 131 none
  statics := none }

def pool9 : Array CpInfo := pool [(1, .class_ 2), (0, u "java/lang/constant/ConstantDesc"), (0, .class_ 4), (0, u "java/lang/Object")] 32

/-- java/lang/constant/ConstantDesc -/
def k9 : Class := { plain "java/lang/constant/ConstantDesc" (some 0) with
  accessFlags := 1537
  interfaces := #[]
  cf := some (fileOf pool9 1 #[] #[] 1537 3 #[] #[])
  fields := #[]
  methods := #[]
  instanceTypes := #[]
  staticTypes := #[]
  resolved := Array.replicate 37 none
  statics := none }

def pool10 : Array CpInfo := pool [(2, .class_ 4), (1, u "java/lang/Object"), (0, u "<init>"), (0, u "()V"), (2, .fieldref 10 11), (0, .class_ 12), (0, .nameAndType 13 14), (0, u "java/lang/String"), (0, u "value"), (0, u "[B"), (0, .fieldref 10 16), (0, .nameAndType 17 18), (0, u "coder"), (0, u "B"), (2, u "hash"), (0, u "I"), (2, u "hashIsZero"), (0, u "Z"), (11, .fieldref 10 39), (0, .nameAndType 40 26), (0, u "COMPACT_STRINGS"), (66, .class_ 109), (1, u "java/lang/StringLatin1"), (431, .methodref 107 542), (0, .nameAndType 543 544), (0, u "equals"), (0, u "([B[B)Z"), (28, u "(Ljava/lang/Object;)Z"), (1, .class_ 576), (0, u "java/lang/CharSequence"), (22, u "CASE_INSENSITIVE_ORDER"), (0, u "Ljava/util/Comparator;"), (500, u "serialPersistentFields"), (0, u "[Ljava/io/ObjectStreamField;"), (0, .class_ 1104), (0, u "java/lang/String$CaseInsensitiveComparator"), (1, .class_ 1107), (0, u "java/io/Serializable"), (0, .class_ 1109), (0, u "java/lang/Comparable"), (0, .class_ 1111), (0, u "java/lang/constant/Constable"), (0, .class_ 1113), (0, u "java/lang/constant/ConstantDesc"), (2, u "serialVersionUID"), (0, u "J"), (3, u "REPL"), (0, u "C"), (2, u "LATIN1"), (1, u "UTF16")] 323

def k10m0 : Method := { name := "<init>", desc := "()V", sig := { parameters := [], returnType := none }, accessFlags := 1, code := none }
def k10c1 : Code := { maxStack := 2, maxLocals := 3, code := jdk_42_method_66_code, exceptionTable := #[], attributes := #[] }
def k10m1 : Method := { name := "equals", desc := "(Ljava/lang/Object;)Z", sig := { parameters := [(.object "java/lang/Object")], returnType := some .boolean }, accessFlags := 1, code := some k10c1 }
/-- java/lang/String -/
def k10 : Class := { plain "java/lang/String" (some 0) with
  accessFlags := 49
  interfaces := #[4, 3, 8, 2, 9]
  cf := some (fileOf pool10 10 #[.nestMembers #[1103]] #[{ accessFlags := 1, nameIndex := 5, descriptorIndex := 6, attributes := #[] }, { accessFlags := 1, nameIndex := 543, descriptorIndex := 573, attributes := #[] }] 49 2 #[1106, 1108, 575, 1110, 1112] #[{ accessFlags := 18, nameIndex := 13, descriptorIndex := 14, attributes := #[] }, { accessFlags := 18, nameIndex := 17, descriptorIndex := 18, attributes := #[] }, { accessFlags := 2, nameIndex := 21, descriptorIndex := 22, attributes := #[] }, { accessFlags := 2, nameIndex := 25, descriptorIndex := 26, attributes := #[] }, { accessFlags := 26, nameIndex := 1116, descriptorIndex := 1117, attributes := #[] }, { accessFlags := 24, nameIndex := 40, descriptorIndex := 26, attributes := #[] }, { accessFlags := 26, nameIndex := 1101, descriptorIndex := 1102, attributes := #[] }, { accessFlags := 26, nameIndex := 1121, descriptorIndex := 1122, attributes := #[] }, { accessFlags := 25, nameIndex := 599, descriptorIndex := 600, attributes := #[] }, { accessFlags := 24, nameIndex := 1125, descriptorIndex := 18, attributes := #[] }, { accessFlags := 24, nameIndex := 1127, descriptorIndex := 18, attributes := #[] }])
  fields := #[{ name := "value", type := (.array .byte), accessFlags := 18, slot := 0, constantValue := 0 }, { name := "coder", type := .byte, accessFlags := 18, slot := 1, constantValue := 0 }, { name := "hash", type := .int, accessFlags := 2, slot := 2, constantValue := 0 }, { name := "hashIsZero", type := .boolean, accessFlags := 2, slot := 3, constantValue := 0 }, { name := "serialVersionUID", type := .long, accessFlags := 26, slot := 0, constantValue := 0 }, { name := "COMPACT_STRINGS", type := .boolean, accessFlags := 24, slot := 1, constantValue := 0 }, { name := "serialPersistentFields", type := (.array (.object "java/io/ObjectStreamField")), accessFlags := 26, slot := 2, constantValue := 0 }, { name := "REPL", type := .char, accessFlags := 26, slot := 3, constantValue := 0 }, { name := "CASE_INSENSITIVE_ORDER", type := (.object "java/util/Comparator"), accessFlags := 25, slot := 4, constantValue := 0 }, { name := "LATIN1", type := .byte, accessFlags := 24, slot := 5, constantValue := 0 }, { name := "UTF16", type := .byte, accessFlags := 24, slot := 6, constantValue := 0 }]
  methods := #[k10m0, k10m1]
  instanceTypes := #[(.array .byte), .byte, .int, .boolean]
  staticTypes := #[.long, .boolean, (.array (.object "java/io/ObjectStreamField")), .char, (.object "java/util/Comparator"), .byte, .byte]
  resolved := Array.replicate 1451 none
  statics := some 1 }

def pool11 : Array CpInfo := pool [(4, .class_ 6), (1, u "java/lang/Object"), (0, u "<init>"), (0, u "()V"), (5, .class_ 16), (1, u "java/lang/StringLatin1"), (104, u "$assertionsDisabled"), (0, u "Z"), (98, .class_ 223), (1, u "java/lang/StringLatin1$LinesSpliterator"), (57, u "equals"), (0, u "([B[B)Z"), (107, .class_ 391), (0, u "java/lang/StringLatin1$CharsSpliterator")] 3

def k11m0 : Method := { name := "<init>", desc := "()V", sig := { parameters := [], returnType := none }, accessFlags := 0, code := none }
def k11c1 : Code := { maxStack := 3, maxLocals := 3, code := jdk_43_method_13_code, exceptionTable := #[], attributes := #[] }
def k11m1 : Method := { name := "equals", desc := "([B[B)Z", sig := { parameters := [(.array .byte), (.array .byte)], returnType := some .boolean }, accessFlags := 9, code := some k11c1 }
/-- java/lang/StringLatin1 -/
def k11 : Class := { plain "java/lang/StringLatin1" (some 0) with
  accessFlags := 48
  interfaces := #[]
  cf := some (fileOf pool11 14 #[.nestMembers #[390, 221]] #[{ accessFlags := 0, nameIndex := 7, descriptorIndex := 8, attributes := #[] }, { accessFlags := 9, nameIndex := 281, descriptorIndex := 282, attributes := #[] }] 48 4 #[] #[{ accessFlags := 4120, nameIndex := 121, descriptorIndex := 122, attributes := #[] }])
  fields := #[{ name := "$assertionsDisabled", type := .boolean, accessFlags := 4120, slot := 0, constantValue := 0 }]
  methods := #[k11m0, k11m1]
  instanceTypes := #[]
  staticTypes := #[.boolean]
  resolved := Array.replicate 395 none
  statics := none }

def pool12 : Array CpInfo := pool [(2, .class_ 4), (1, u "java/lang/Object"), (0, u "<init>"), (0, u "()V"), (17, .class_ 26), (1, u "jdk/internal/util/Preconditions"), (28, .class_ 56), (0, u "jdk/internal/util/Preconditions$4"), (57, .class_ 115), (0, u "jdk/internal/util/Preconditions$1"), (7, u "SIOOBE_FORMATTER"), (0, u "Ljava/util/function/BiFunction;"), (0, .class_ 126), (0, u "jdk/internal/util/Preconditions$2"), (3, u "AIOOBE_FORMATTER"), (0, .class_ 132), (0, u "jdk/internal/util/Preconditions$3"), (3, u "IOOBE_FORMATTER")] 57

def k12m0 : Method := { name := "<init>", desc := "()V", sig := { parameters := [], returnType := none }, accessFlags := 1, code := none }
/-- jdk/internal/util/Preconditions -/
def k12 : Class := { plain "jdk/internal/util/Preconditions" (some 0) with
  accessFlags := 33
  interfaces := #[]
  cf := some (fileOf pool12 24 #[.nestMembers #[55, 131, 125, 114]] #[{ accessFlags := 1, nameIndex := 5, descriptorIndex := 6, attributes := #[] }] 33 2 #[] #[{ accessFlags := 25, nameIndex := 123, descriptorIndex := 124, attributes := #[] }, { accessFlags := 25, nameIndex := 130, descriptorIndex := 124, attributes := #[] }, { accessFlags := 25, nameIndex := 136, descriptorIndex := 124, attributes := #[] }])
  fields := #[{ name := "SIOOBE_FORMATTER", type := (.object "java/util/function/BiFunction"), accessFlags := 25, slot := 0, constantValue := 0 }, { name := "AIOOBE_FORMATTER", type := (.object "java/util/function/BiFunction"), accessFlags := 25, slot := 1, constantValue := 0 }, { name := "IOOBE_FORMATTER", type := (.object "java/util/function/BiFunction"), accessFlags := 25, slot := 2, constantValue := 0 }]
  methods := #[k12m0]
  instanceTypes := #[]
  staticTypes := #[(.object "java/util/function/BiFunction"), (.object "java/util/function/BiFunction"), (.object "java/util/function/BiFunction")]
  resolved := Array.replicate 194 none
  statics := some 2 }

def pool13 : Array CpInfo := pool [(9, u "<init>"), (6, .class_ 18), (1, u "java/lang/Object"), (0, u "()V"), (1, .class_ 23), (1, u "jdk/internal/util/ArraysSupport"), (0, u "LOG2_ARRAY_LONG_INDEX_SCALE"), (0, u "I"), (2, u "U"), (0, u "Ljdk/internal/misc/Unsafe;"), (8, u "BIG_ENDIAN"), (0, u "Z"), (8, u "LOG2_BYTE_BIT_SIZE"), (4, u "LOG2_ARRAY_INT_INDEX_SCALE"), (54, u "JLA"), (0, u "Ljdk/internal/access/JavaLangAccess;"), (11, u "LOG2_ARRAY_BOOLEAN_INDEX_SCALE"), (9, u "LOG2_ARRAY_BYTE_INDEX_SCALE"), (5, u "LOG2_ARRAY_CHAR_INDEX_SCALE"), (5, u "LOG2_ARRAY_SHORT_INDEX_SCALE"), (18, u "LOG2_ARRAY_FLOAT_INDEX_SCALE"), (24, u "LOG2_ARRAY_DOUBLE_INDEX_SCALE"), (89, u "T_BOOLEAN"), (2, u "T_CHAR"), (1, u "T_FLOAT"), (1, u "T_DOUBLE"), (1, u "T_BYTE"), (1, u "T_SHORT"), (1, u "T_INT"), (1, u "T_LONG"), (1, u "SOFT_MAX_ARRAY_LENGTH")] 83

def k13m0 : Method := { name := "<init>", desc := "()V", sig := { parameters := [], returnType := none }, accessFlags := 2, code := none }
/-- jdk/internal/util/ArraysSupport -/
def k13 : Class := { plain "jdk/internal/util/ArraysSupport" (some 0) with
  accessFlags := 33
  interfaces := #[]
  cf := some (fileOf pool13 21 #[] #[{ accessFlags := 2, nameIndex := 9, descriptorIndex := 19, attributes := #[] }] 33 16 #[] #[{ accessFlags := 24, nameIndex := 28, descriptorIndex := 29, attributes := #[] }, { accessFlags := 26, nameIndex := 38, descriptorIndex := 39, attributes := #[] }, { accessFlags := 25, nameIndex := 121, descriptorIndex := 25, attributes := #[] }, { accessFlags := 25, nameIndex := 131, descriptorIndex := 25, attributes := #[] }, { accessFlags := 25, nameIndex := 137, descriptorIndex := 25, attributes := #[] }, { accessFlags := 25, nameIndex := 143, descriptorIndex := 25, attributes := #[] }, { accessFlags := 25, nameIndex := 53, descriptorIndex := 25, attributes := #[] }, { accessFlags := 25, nameIndex := 24, descriptorIndex := 25, attributes := #[] }, { accessFlags := 25, nameIndex := 162, descriptorIndex := 25, attributes := #[] }, { accessFlags := 25, nameIndex := 187, descriptorIndex := 25, attributes := #[] }, { accessFlags := 26, nameIndex := 48, descriptorIndex := 25, attributes := #[] }, { accessFlags := 25, nameIndex := 277, descriptorIndex := 25, attributes := #[] }, { accessFlags := 25, nameIndex := 280, descriptorIndex := 25, attributes := #[] }, { accessFlags := 25, nameIndex := 282, descriptorIndex := 25, attributes := #[] }, { accessFlags := 25, nameIndex := 284, descriptorIndex := 25, attributes := #[] }, { accessFlags := 25, nameIndex := 286, descriptorIndex := 25, attributes := #[] }, { accessFlags := 25, nameIndex := 288, descriptorIndex := 25, attributes := #[] }, { accessFlags := 25, nameIndex := 290, descriptorIndex := 25, attributes := #[] }, { accessFlags := 25, nameIndex := 292, descriptorIndex := 25, attributes := #[] }, { accessFlags := 26, nameIndex := 108, descriptorIndex := 109, attributes := #[] }, { accessFlags := 25, nameIndex := 294, descriptorIndex := 25, attributes := #[] }])
  fields := #[{ name := "U", type := (.object "jdk/internal/misc/Unsafe"), accessFlags := 24, slot := 0, constantValue := 0 }, { name := "BIG_ENDIAN", type := .boolean, accessFlags := 26, slot := 1, constantValue := 0 }, { name := "LOG2_ARRAY_BOOLEAN_INDEX_SCALE", type := .int, accessFlags := 25, slot := 2, constantValue := 0 }, { name := "LOG2_ARRAY_BYTE_INDEX_SCALE", type := .int, accessFlags := 25, slot := 3, constantValue := 0 }, { name := "LOG2_ARRAY_CHAR_INDEX_SCALE", type := .int, accessFlags := 25, slot := 4, constantValue := 0 }, { name := "LOG2_ARRAY_SHORT_INDEX_SCALE", type := .int, accessFlags := 25, slot := 5, constantValue := 0 }, { name := "LOG2_ARRAY_INT_INDEX_SCALE", type := .int, accessFlags := 25, slot := 6, constantValue := 0 }, { name := "LOG2_ARRAY_LONG_INDEX_SCALE", type := .int, accessFlags := 25, slot := 7, constantValue := 0 }, { name := "LOG2_ARRAY_FLOAT_INDEX_SCALE", type := .int, accessFlags := 25, slot := 8, constantValue := 0 }, { name := "LOG2_ARRAY_DOUBLE_INDEX_SCALE", type := .int, accessFlags := 25, slot := 9, constantValue := 0 }, { name := "LOG2_BYTE_BIT_SIZE", type := .int, accessFlags := 26, slot := 10, constantValue := 0 }, { name := "T_BOOLEAN", type := .int, accessFlags := 25, slot := 11, constantValue := 0 }, { name := "T_CHAR", type := .int, accessFlags := 25, slot := 12, constantValue := 0 }, { name := "T_FLOAT", type := .int, accessFlags := 25, slot := 13, constantValue := 0 }, { name := "T_DOUBLE", type := .int, accessFlags := 25, slot := 14, constantValue := 0 }, { name := "T_BYTE", type := .int, accessFlags := 25, slot := 15, constantValue := 0 }, { name := "T_SHORT", type := .int, accessFlags := 25, slot := 16, constantValue := 0 }, { name := "T_INT", type := .int, accessFlags := 25, slot := 17, constantValue := 0 }, { name := "T_LONG", type := .int, accessFlags := 25, slot := 18, constantValue := 0 }, { name := "JLA", type := (.object "jdk/internal/access/JavaLangAccess"), accessFlags := 26, slot := 19, constantValue := 0 }, { name := "SOFT_MAX_ARRAY_LENGTH", type := .int, accessFlags := 25, slot := 20, constantValue := 0 }]
  methods := #[k13m0]
  instanceTypes := #[]
  staticTypes := #[(.object "jdk/internal/misc/Unsafe"), .boolean, .int, .int, .int, .int, .int, .int, .int, .int, .int, .int, .int, .int, .int, .int, .int, .int, .int, (.object "jdk/internal/access/JavaLangAccess"), .int]
  resolved := Array.replicate 378 none
  statics := none }

def pool14 : Array CpInfo := pool [(1, u "java/lang/Cloneable"), (0, .class_ 1), (0, u "java/lang/Object"), (0, .class_ 3)] 3

/-- java/lang/Cloneable -/
def k14 : Class := { plain "java/lang/Cloneable" (some 0) with
  accessFlags := 1537
  interfaces := #[]
  cf := some (fileOf pool14 2 #[] #[] 1537 4 #[] #[])
  fields := #[]
  methods := #[]
  instanceTypes := #[]
  staticTypes := #[]
  resolved := Array.replicate 8 none
  statics := none }

/-- the primitive byte -/
def k15 : Class := { plain "byte" none with kind := .primitive 'B', accessFlags := 0x411 }
/-- [B -/
def k16 : Class := { plain "[B" (some 0) with kind := .array 15 .byte, interfaces := #[14, 4], accessFlags := 1041 }

/-- the primitive int -/
def k17 : Class := { plain "int" none with kind := .primitive 'I', accessFlags := 0x411 }
/-- [I -/
def k18 : Class := { plain "[I" (some 0) with kind := .array 17 .int, interfaces := #[14, 4], accessFlags := 1041 }

def heap : Heap := #[{ cls := 7, slots := #[.ref 5, .ref 8, .ref 11, .null], vm := .statics 7 },
  { cls := 10, slots := #[.long 0, .int 1, .null, .int 0, .null, .int 0, .int 0], vm := .statics 10 },
  { cls := 12, slots := #[.null, .null, .null], vm := .statics 12 },
  { cls := 16, slots := #[.int 111, .int 102, .int 102, .int 105, .int 99, .int 101, .int 114], vm := .none },
  { cls := 10, slots := #[.ref 3, .int 0, .int 0, .int 0], vm := .none },
  { cls := 7, slots := #[.null, .int 0, .int 0, .ref 4], vm := .none },
  { cls := 16, slots := #[.int 118, .int 105, .int 101, .int 119, .int 101, .int 114], vm := .none },
  { cls := 10, slots := #[.ref 6, .int 0, .int 0, .int 0], vm := .none },
  { cls := 7, slots := #[.null, .int 1, .int 0, .ref 7], vm := .none },
  { cls := 16, slots := #[.int 115, .int 121, .int 115, .int 116, .int 101, .int 109], vm := .none },
  { cls := 10, slots := #[.ref 9, .int 0, .int 0, .int 0], vm := .none },
  { cls := 7, slots := #[.null, .int 2, .int 0, .ref 10], vm := .none }]
def classes : Array Class := #[k0, k1, k2, k3, k4, k5, k6, k7, k8, k9, k10, k11, k12, k13, k14, k15, k16, k17, k18]
def interned : List (Array UInt16 × Addr) := []
def slotsUsed : Nat := 57
def theMethod : MethodId := ⟨1, 1⟩
def args0 : Array Value := #[.int 6]
def aboutOver (below : List Frame) : State where
  vm := { classes := classes, interned := interned.toArray }
  heap := heap
  slotsUsed := slotsUsed
  threads := #[{ frames := .invoking theMethod args0 :: below }]
def below0 : List Frame := [.native { method := ⟨0, 0⟩, args := #[] }]
def about1 : State := aboutOver below0
def p0 : Program := .bare "" "" ""
def e0 : Env := launch0.env 0 0 0
theorem w_frames : about1.frames = Frame.invoking theMethod args0 :: below0 := rfl
set_option maxRecDepth 65536 in
theorem w_args : argsFit about1.vm theMethod args0 = true := by decide +kernel
set_option maxRecDepth 65536 in
theorem w_heap : heapFits about1 = true := by decide +kernel
set_option maxRecDepth 65536 in
theorem w_runnable : about1.curStatus? = some .runnable := by decide +kernel
set_option maxRecDepth 65536 in
theorem w_alone : about1.alone = true := by decide +kernel
set_option maxRecDepth 65536 in
theorem w_named : about1.methodNamed? x = some theMethod := by decide +kernel
set_option maxRecDepth 65536 in
theorem w_hears : about1.hears theMethod below0 = true := by decide +kernel
set_option maxRecDepth 65536 in
theorem w_ripe : about1.ripe theMethod args0 below0 = true := by decide +kernel
theorem w_running : about1.status = .running := rfl
set_option maxRecDepth 65536 in
theorem w_room : about1.hasRoom e0.platform room_1 = true :=
  launch0.hasRoom_least _ room_1 (by decide +kernel) (by decide +kernel) (by decide +kernel) (by decide +kernel) (by decide +kernel) (by decide +kernel)
theorem allAtoms_all (ts : List Jvm.Cond) (a : Array Jvm.Value) (st : Jvm.State) : (allAtoms ts).before a st = ts.all (fun c => c.before a st) := by
  induction ts with
  | nil => rfl
  | cons c t ih =>
    show (Jvm.Cond.and c (allAtoms t)).before a st = _
    rw [Jvm.Cond.before_and, ih, List.all_cons]
def words1 : List Jvm.Cond := Jvm.Cond.code x code maxLocals ret :: tables_1
/-- a 'code' word, met by the world's own term for the bytes: nothing is compared byte by byte -/
theorem code_word {y : MethodName} {bytes : ByteArray} {mx : Nat} {rt : Option FieldType} {a : Array Value} {s : State} {m : MethodId} {meth : Method} {c : Code} (h1 : s.methodNamed? y = some m) (h2 : s.vm.method? m = some meth) (h3 : meth.code = some c) (h4 : c.code = bytes)
    (h5 : (c.maxLocals == mx && c.exceptionTable.isEmpty && decide (c.maxStack ≤ mostOperands) && decide (meth.sig.returnType = rt) && !meth.locks && decide (parseMethodDescriptor y.desc = some meth.sig)) = true) : (Jvm.Cond.code y bytes mx rt).before a s = true := by
  simp only [Bool.and_eq_true, beq_iff_eq, Bool.not_eq_true', decide_eq_true_eq] at h5
  obtain ⟨⟨⟨⟨⟨g1, g2⟩, g3⟩, g4⟩, g5⟩, g6⟩ := h5
  simp [Cond.before, Cond.holds, Cond.value, h1, h2, h3, h4, g1, g2, g3, g4, g5, g6]
def isCode : Jvm.Cond → Bool
  | .code _ _ _ _ => true
  | _ => false
theorem all_split {L : List Jvm.Cond} {P : Jvm.Cond → Bool} (h1 : L.all (fun c => isCode c || P c) = true) (h2 : ∀ c ∈ L.filter isCode, P c = true) : L.all P = true := by
  refine List.all_eq_true.mpr fun c hc => ?_
  have h := List.all_eq_true.mp h1 c hc
  rcases Bool.eq_false_or_eq_true (isCode c) with hi | hi
  · exact h2 c (List.mem_filter.mpr ⟨hc, hi⟩)
  · simpa [hi] using h
set_option maxRecDepth 65536 in
theorem w_c0 : (Jvm.Cond.code x code maxLocals ret).before args0 about1 = true := code_word (m := ⟨1, 1⟩) (meth := k1m1) (c := k1c1) (by decide +kernel) rfl rfl rfl (by decide +kernel)
set_option maxRecDepth 65536 in
theorem w_c1 : (Jvm.Cond.code ({ cls := "com/example/goalpost/goalpost/accounts/AccountRole", name := "id", desc := "()Ljava/lang/String;" } : Jvm.MethodName) prog_3_method_4_code (1 : Nat) (Option.some (Jvm.ClassFile.FieldType.object "java/lang/String"))).before args0 about1 = true := code_word (m := ⟨7, 0⟩) (meth := k7m0) (c := k7c0) (by decide +kernel) rfl rfl rfl (by decide +kernel)
set_option maxRecDepth 65536 in
theorem w_c2 : (Jvm.Cond.code ({ cls := "java/lang/String", name := "equals", desc := "(Ljava/lang/Object;)Z" } : Jvm.MethodName) jdk_42_method_66_code (3 : Nat) (Option.some Jvm.ClassFile.FieldType.boolean)).before args0 about1 = true := code_word (m := ⟨10, 1⟩) (meth := k10m1) (c := k10c1) (by decide +kernel) rfl rfl rfl (by decide +kernel)
set_option maxRecDepth 65536 in
theorem w_c3 : (Jvm.Cond.code ({ cls := "java/lang/StringLatin1", name := "equals", desc := "([B[B)Z" } : Jvm.MethodName) jdk_43_method_13_code (3 : Nat) (Option.some Jvm.ClassFile.FieldType.boolean)).before args0 about1 = true := code_word (m := ⟨11, 1⟩) (meth := k11m1) (c := k11c1) (by decide +kernel) rfl rfl rfl (by decide +kernel)
set_option maxRecDepth 65536 in
theorem w_c4 : (Jvm.Cond.code ({ cls := "com/example/goalpost/goalpost/accounts/AccountRole", name := "records", desc := "()Z" } : Jvm.MethodName) prog_3_method_5_code (1 : Nat) (Option.some Jvm.ClassFile.FieldType.boolean)).before args0 about1 = true := code_word (m := ⟨7, 1⟩) (meth := k7m1) (c := k7c1) (by decide +kernel) rfl rfl rfl (by decide +kernel)
def codes1 : List Jvm.Cond := [Jvm.Cond.code x code maxLocals ret, Jvm.Cond.code ({ cls := "com/example/goalpost/goalpost/accounts/AccountRole", name := "id", desc := "()Ljava/lang/String;" } : Jvm.MethodName) prog_3_method_4_code (1 : Nat) (Option.some (Jvm.ClassFile.FieldType.object "java/lang/String")), Jvm.Cond.code ({ cls := "java/lang/String", name := "equals", desc := "(Ljava/lang/Object;)Z" } : Jvm.MethodName) jdk_42_method_66_code (3 : Nat) (Option.some Jvm.ClassFile.FieldType.boolean), Jvm.Cond.code ({ cls := "java/lang/StringLatin1", name := "equals", desc := "([B[B)Z" } : Jvm.MethodName) jdk_43_method_13_code (3 : Nat) (Option.some Jvm.ClassFile.FieldType.boolean), Jvm.Cond.code ({ cls := "com/example/goalpost/goalpost/accounts/AccountRole", name := "records", desc := "()Z" } : Jvm.MethodName) prog_3_method_5_code (1 : Nat) (Option.some Jvm.ClassFile.FieldType.boolean)]
set_option maxRecDepth 65536 in
theorem codes_eq : words1.filter isCode = codes1 := rfl
theorem w_codes : ∀ c ∈ words1.filter isCode, c.before args0 about1 = true := by
  rw [codes_eq]
  intro c hc
  simp only [codes1, List.mem_cons, List.not_mem_nil, or_false] at hc
  rcases hc with rfl | rfl | rfl | rfl | rfl
  · exact w_c0
  · exact w_c1
  · exact w_c2
  · exact w_c3
  · exact w_c4
set_option maxRecDepth 65536 in
theorem w_t1 : (words1.take 24).all (fun c => isCode c || c.before args0 about1) = true := by decide +kernel
set_option maxRecDepth 65536 in
theorem w_t2 : (words1.drop 24).all (fun c => isCode c || c.before args0 about1) = true := by decide +kernel
theorem w_tables : (allAtoms (Jvm.Cond.code x code maxLocals ret :: tables_1)).before args0 about1 = true := by
  rw [allAtoms_all]
  show words1.all (fun c => c.before args0 about1) = true
  refine all_split ?_ w_codes
  rw [← List.take_append_drop 24 words1, List.all_append, w_t1, w_t2]
  rfl
set_option maxRecDepth 65536 in
theorem w_rest : rest_1_c.before args0 about1 = true := by decide +kernel
set_option maxRecDepth 65536 in
theorem w_case : (Jvm.Cond.and given_1 narrow_1).before args0 about1 = true := by decide +kernel
set_option maxRecDepth 65536 in
theorem w_consts : constsHeld consts_1 about1 := Jvm.Lit.constsHeldB_iff.mp (by decide +kernel)
theorem w_applies : (headSpec (Jvm.Cond.code x code maxLocals ret :: tables_1) room_1).applies x e0.platform about1 = true :=
  (Spec.applies_iff w_frames).mpr ⟨w_running, w_runnable, w_alone, w_named, w_hears, w_ripe, w_room, w_tables⟩
theorem atStart : AtStart classFile x code maxLocals ret World_1 tables_1 room_1 Calls_1 rest_1 Pre_1 launch0 p0 e0 about1 theMethod args0 below0 :=
  ⟨lists_1, trivial, launch0.admits_env _ _ _, launch0.least_env, fairChoices_fair.cas, fairChoices_fair.clock, w_frames, w_args, w_heap, w_applies, ⟨w_consts, trivial⟩, w_rest, w_case⟩
end start1
theorem witness_1 : WitnessClaimed_1 := ⟨start1.p0, start1.e0, start1.about1, start1.theMethod, start1.args0, start1.below0, start1.atStart⟩
end Jvm.Pilot.@@N@@
