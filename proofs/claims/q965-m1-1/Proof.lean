import JvmDerived
import JvmDerived.Pilot.@@N@@Statement
import JvmDerived.Pilot.@@N@@Code
set_option linter.unusedVariables false
set_option linter.unusedSimpArgs false
@@BLOCK:NumsL.lean.txt@@
namespace Jvm.Pilot.@@N@@
open Jvm Jvm.ClassFile Sem Op Lib Jvm.Free Jvm.Stand Jvm.LawKit Jvm.RoadKit Bundle Jvm.Pilot.@@N@@.Jvm.D

section OwnKit
variable {p : Program} {l : Launch} {e : Env} {R : Room} {s : State} {m : MethodId} {args : Array Value} {below : List Frame} {meth : Method} {c : Code} {T T' : State} {locs : List Loc} {cells slots C S : Nat} {Nd : Outcome → State → List Loc → Prop} {Q : Option Value → Heap → List Loc → Prop} {pc n : Nat} {Ls Ls' : Array Slot} {st : List Value} {g g' : JFrame} {Z : State} {a0 : Array Value} {h : Heap}
/-- from T, with the frame g on top, the method comes to its end, and Q is said of what it returns, of the heap and of the places written -/
def Go (p : Program) (e : Env) (below : List Frame) (Nd : Outcome → State → List Loc → Prop) (Q : Option Value → Heap → List Loc → Prop) (T : State) (g : JFrame) : Prop :=
  ∃ s₂ o, Steps p.tables e below (T.setTop g) s₂ ∧ s₂.status = .running ∧ Ended s₂ below o ∧ ∃ v L, o = .returned v ∧ Q v s₂.heap L ∧ Nd o s₂ L
/-- the narrow end, and the wide one (String constants may have come) -/
def Fe (s : State) (C S : Nat) (o : Outcome) (t : State) (L : List Loc) : Prop := FrameEnd s o t L C S
def Fw (s : State) (C S : Nat) (o : Outcome) (t : State) (L : List Loc) : Prop := ReturnedEndW s o t L C S
theorem Fe.of {v : Option Value} (hC : cells ≤ C) (hS : slots ≤ S) : ∀ t, FrameEnd s (.returned v) t locs cells slots → t.heap = T.heap → Fe s C S (.returned v) t locs := fun t q _ => ⟨q.1, q.2.1, q.2.2.mono hC hS⟩
theorem Go.stp (q : ∀ t, Steps p.tables e below (T'.setTop g') t → Steps p.tables e below (T.setTop g) t) (k : Go p e below Nd Q T' g') : Go p e below Nd Q T g := by
  obtain ⟨s₂, o, h1, h2⟩ := k; exact ⟨s₂, o, q _ h1, h2⟩
theorem Go.tr (q : Steps p.tables e below (T.setTop g) (T'.setTop g')) (k : Go p e below Nd Q T' g') : Go p e below Nd Q T g := Go.stp (fun _ r => q.trans r) k
theorem Go.mono {Q' : Option Value → Heap → List Loc → Prop} (k : Go p e below Nd Q T g) (q : ∀ v h L, Q v h L → Q' v h L) : Go p e below Nd Q' T g := by
  obtain ⟨s₂, o, h1, h2, h3, v, L, h4, h5, h6⟩ := k; exact ⟨s₂, o, h1, h2, h3, v, L, h4, q _ _ _ h5, h6⟩
theorem g_aloadN (X : Stand p l e R s m args below meth c T locs cells slots) (hx : p.tables.exec = Jvm.exec) {k : Fin 4} {v : Value} (hd : decode c.code pc = .ok (.aload_n k, 1)) (hn : pc + 1 = n) (hl : Ls[k.val]? = some (.val v)) (hv : v.isRef = true) (k : Go p e below Nd Q T (mkF m n Ls (v :: st))) : Go p e below Nd Q T (mkF m pc Ls st) := by
  subst hn; exact Go.stp (fun t q => XS.aloadN X.here hx rfl hd hl hv q) k
theorem g_aload (X : Stand p l e R s m args below meth c T locs cells slots) (hx : p.tables.exec = Jvm.exec) {k : Nat} {v : Value} (hd : decode c.code pc = .ok (.aload k, 2)) (hn : pc + 2 = n) (hl : Ls[k]? = some (.val v)) (hv : v.isRef = true) (k : Go p e below Nd Q T (mkF m n Ls (v :: st))) : Go p e below Nd Q T (mkF m pc Ls st) := by
  subst hn; exact Go.stp (fun t q => XS.aload X.here hx rfl hd hl hv q) k
theorem g_iloadN (X : Stand p l e R s m args below meth c T locs cells slots) (hx : p.tables.exec = Jvm.exec) {k : Fin 4} {v : Int32} (hd : decode c.code pc = .ok (.iload_n k, 1)) (hn : pc + 1 = n) (hl : Ls[k.val]? = some (.val (.int v))) (k : Go p e below Nd Q T (mkF m n Ls (.int v :: st))) : Go p e below Nd Q T (mkF m pc Ls st) := by
  subst hn; exact Go.stp (fun t q => XS.iloadN X.here hx rfl hd hl q) k
theorem g_iload (X : Stand p l e R s m args below meth c T locs cells slots) (hx : p.tables.exec = Jvm.exec) {k : Nat} {v : Int32} (hd : decode c.code pc = .ok (.iload k, 2)) (hn : pc + 2 = n) (hl : Ls[k]? = some (.val (.int v))) (k : Go p e below Nd Q T (mkF m n Ls (.int v :: st))) : Go p e below Nd Q T (mkF m pc Ls st) := by
  subst hn; exact Go.stp (fun t q => XS.iload X.here hx rfl hd hl q) k
theorem g_istoreN (X : Stand p l e R s m args below meth c T locs cells slots) (hx : p.tables.exec = Jvm.exec) {k : Fin 4} {v : Int32} (hd : decode c.code pc = .ok (.istore_n k, 1)) (hn : pc + 1 = n) (Ls' : Array Slot) (hl : storeLocals Ls k.val (.int v) = some Ls') (k : Go p e below Nd Q T (mkF m n Ls' st)) : Go p e below Nd Q T (mkF m pc Ls (.int v :: st)) := by
  subst hn; exact Go.stp (fun t q => XS.istoreN X.here hx rfl hd rfl hl q) k
theorem g_istore (X : Stand p l e R s m args below meth c T locs cells slots) (hx : p.tables.exec = Jvm.exec) {k : Nat} {v : Int32} (hd : decode c.code pc = .ok (.istore k, 2)) (hn : pc + 2 = n) (Ls' : Array Slot) (hl : storeLocals Ls k (.int v) = some Ls') (k : Go p e below Nd Q T (mkF m n Ls' st)) : Go p e below Nd Q T (mkF m pc Ls (.int v :: st)) := by
  subst hn; exact Go.stp (fun t q => XS.istore X.here hx rfl hd rfl hl q) k
theorem g_lloadN (X : Stand p l e R s m args below meth c T locs cells slots) (hx : p.tables.exec = Jvm.exec) {k : Fin 4} {v : Int64} (hd : decode c.code pc = .ok (.lload_n k, 1)) (hn : pc + 1 = n) (hl : Ls[k.val]? = some (.val (.long v))) (k : Go p e below Nd Q T (mkF m n Ls (.long v :: st))) : Go p e below Nd Q T (mkF m pc Ls st) := by
  subst hn; exact Go.stp (fun t q => XT.lloadN X.here hx rfl hd hl q) k
theorem g_lload (X : Stand p l e R s m args below meth c T locs cells slots) (hx : p.tables.exec = Jvm.exec) {k : Nat} {v : Int64} (hd : decode c.code pc = .ok (.lload k, 2)) (hn : pc + 2 = n) (hl : Ls[k]? = some (.val (.long v))) (k : Go p e below Nd Q T (mkF m n Ls (.long v :: st))) : Go p e below Nd Q T (mkF m pc Ls st) := by
  subst hn; exact Go.stp (fun t q => XT.lload X.here hx rfl hd hl q) k
theorem g_lstoreN (X : Stand p l e R s m args below meth c T locs cells slots) (hx : p.tables.exec = Jvm.exec) {k : Fin 4} {v : Int64} (hd : decode c.code pc = .ok (.lstore_n k, 1)) (hn : pc + 1 = n) (Ls' : Array Slot) (hl : storeLocals Ls k.val (.long v) = some Ls') (k : Go p e below Nd Q T (mkF m n Ls' st)) : Go p e below Nd Q T (mkF m pc Ls (.long v :: st)) := by
  subst hn; exact Go.stp (fun t q => XT.lstoreN X.here hx rfl hd rfl hl q) k
theorem g_lstore (X : Stand p l e R s m args below meth c T locs cells slots) (hx : p.tables.exec = Jvm.exec) {k : Nat} {v : Int64} (hd : decode c.code pc = .ok (.lstore k, 2)) (hn : pc + 2 = n) (Ls' : Array Slot) (hl : storeLocals Ls k (.long v) = some Ls') (k : Go p e below Nd Q T (mkF m n Ls' st)) : Go p e below Nd Q T (mkF m pc Ls (.long v :: st)) := by
  subst hn; exact Go.stp (fun t q => XT.lstore X.here hx rfl hd rfl hl q) k
theorem g_astoreN (X : Stand p l e R s m args below meth c T locs cells slots) (hx : p.tables.exec = Jvm.exec) {k : Fin 4} {v : Value} (hd : decode c.code pc = .ok (.astore_n k, 1)) (hn : pc + 1 = n) (hv : v.isRef = true) (Ls' : Array Slot) (hl : storeLocals Ls k.val v = some Ls') (k : Go p e below Nd Q T (mkF m n Ls' st)) : Go p e below Nd Q T (mkF m pc Ls (v :: st)) := by
  subst hn; exact Go.stp (fun t q => XS.astoreN X.here hx rfl hd rfl hv hl q) k
theorem g_astore (X : Stand p l e R s m args below meth c T locs cells slots) (hx : p.tables.exec = Jvm.exec) {k : Nat} {v : Value} (hd : decode c.code pc = .ok (.astore k, 2)) (hn : pc + 2 = n) (hv : v.isRef = true) (Ls' : Array Slot) (hl : storeLocals Ls k v = some Ls') (k : Go p e below Nd Q T (mkF m n Ls' st)) : Go p e below Nd Q T (mkF m pc Ls (v :: st)) := by
  subst hn; exact Go.stp (fun t q => XS.astore X.here hx rfl hd rfl hv hl q) k
theorem g_iconst (X : Stand p l e R s m args below meth c T locs cells slots) (hx : p.tables.exec = Jvm.exec) {i : Int} (v : Int32) (hd : decode c.code pc = .ok (.iconst i, 1)) (hn : pc + 1 = n) (hv : Int32.ofInt i = v) (k : Go p e below Nd Q T (mkF m n Ls (.int v :: st))) : Go p e below Nd Q T (mkF m pc Ls st) := by
  subst hn hv; exact Go.stp (fun t q => XS.iconst X.here hx rfl hd q) k
theorem g_bipush (X : Stand p l e R s m args below meth c T locs cells slots) (hx : p.tables.exec = Jvm.exec) {i : Int} (v : Int32) (hd : decode c.code pc = .ok (.bipush i, 2)) (hn : pc + 2 = n) (hv : (Int8.ofInt i).toInt32 = v) (k : Go p e below Nd Q T (mkF m n Ls (.int v :: st))) : Go p e below Nd Q T (mkF m pc Ls st) := by
  subst hn hv; exact Go.stp (fun t q => XS.bipush X.here hx rfl hd q) k
theorem g_sipush (X : Stand p l e R s m args below meth c T locs cells slots) (hx : p.tables.exec = Jvm.exec) {i : Int} (v : Int32) (hd : decode c.code pc = .ok (.sipush i, 3)) (hn : pc + 3 = n) (hv : (Int16.ofInt i).toInt32 = v) (k : Go p e below Nd Q T (mkF m n Ls (.int v :: st))) : Go p e below Nd Q T (mkF m pc Ls st) := by
  subst hn hv; exact Go.stp (fun t q => XS.sipush X.here hx rfl hd q) k
theorem g_lconst (X : Stand p l e R s m args below meth c T locs cells slots) (hx : p.tables.exec = Jvm.exec) {j : Fin 2} (v : Int64) (hd : decode c.code pc = .ok (.lconst j, 1)) (hn : pc + 1 = n) (hv : Int64.ofNat j = v) (k : Go p e below Nd Q T (mkF m n Ls (.long v :: st))) : Go p e below Nd Q T (mkF m pc Ls st) := by
  subst hn hv; exact Go.stp (fun t q => XT.lconst X.here hx rfl hd q) k
theorem g_aconstNull (X : Stand p l e R s m args below meth c T locs cells slots) (hx : p.tables.exec = Jvm.exec) (hd : decode c.code pc = .ok (.aconst_null, 1)) (hn : pc + 1 = n) (k : Go p e below Nd Q T (mkF m n Ls (.null :: st))) : Go p e below Nd Q T (mkF m pc Ls st) := by
  subst hn; exact Go.stp (fun t q => XS.aconstNull X.here hx rfl hd q) k
theorem g_iadd (X : Stand p l e R s m args below meth c T locs cells slots) (hx : p.tables.exec = Jvm.exec) {x y : Int32} (hd : decode c.code pc = .ok (.iadd, 1)) (hn : pc + 1 = n) (k : Go p e below Nd Q T (mkF m n Ls (.int (x + y) :: st))) : Go p e below Nd Q T (mkF m pc Ls (.int y :: .int x :: st)) := by
  subst hn; exact Go.stp (fun t q => XS.iadd X.here hx rfl hd rfl q) k
theorem g_isub (X : Stand p l e R s m args below meth c T locs cells slots) (hx : p.tables.exec = Jvm.exec) {x y : Int32} (hd : decode c.code pc = .ok (.isub, 1)) (hn : pc + 1 = n) (k : Go p e below Nd Q T (mkF m n Ls (.int (x - y) :: st))) : Go p e below Nd Q T (mkF m pc Ls (.int y :: .int x :: st)) := by
  subst hn; exact Go.stp (fun t q => XS.isub X.here hx rfl hd rfl q) k
theorem g_imul (X : Stand p l e R s m args below meth c T locs cells slots) (hx : p.tables.exec = Jvm.exec) {x y : Int32} (hd : decode c.code pc = .ok (.imul, 1)) (hn : pc + 1 = n) (k : Go p e below Nd Q T (mkF m n Ls (.int (x * y) :: st))) : Go p e below Nd Q T (mkF m pc Ls (.int y :: .int x :: st)) := by
  subst hn; exact Go.stp (fun t q => XS.imul X.here hx rfl hd rfl q) k
theorem g_iand (X : Stand p l e R s m args below meth c T locs cells slots) (hx : p.tables.exec = Jvm.exec) {x y : Int32} (hd : decode c.code pc = .ok (.iand, 1)) (hn : pc + 1 = n) (k : Go p e below Nd Q T (mkF m n Ls (.int (x &&& y) :: st))) : Go p e below Nd Q T (mkF m pc Ls (.int y :: .int x :: st)) := by
  subst hn; exact Go.stp (fun t q => XS.iand X.here hx rfl hd rfl q) k
theorem g_ior (X : Stand p l e R s m args below meth c T locs cells slots) (hx : p.tables.exec = Jvm.exec) {x y : Int32} (hd : decode c.code pc = .ok (.ior, 1)) (hn : pc + 1 = n) (k : Go p e below Nd Q T (mkF m n Ls (.int (x ||| y) :: st))) : Go p e below Nd Q T (mkF m pc Ls (.int y :: .int x :: st)) := by
  subst hn; exact Go.stp (fun t q => XT.ior X.here hx rfl hd rfl q) k
theorem g_ixor (X : Stand p l e R s m args below meth c T locs cells slots) (hx : p.tables.exec = Jvm.exec) {x y : Int32} (hd : decode c.code pc = .ok (.ixor, 1)) (hn : pc + 1 = n) (k : Go p e below Nd Q T (mkF m n Ls (.int (x ^^^ y) :: st))) : Go p e below Nd Q T (mkF m pc Ls (.int y :: .int x :: st)) := by
  subst hn; exact Go.stp (fun t q => XT.ixor X.here hx rfl hd rfl q) k
theorem g_ishl (X : Stand p l e R s m args below meth c T locs cells slots) (hx : p.tables.exec = Jvm.exec) {x y : Int32} (hd : decode c.code pc = .ok (.ishl, 1)) (hn : pc + 1 = n) (k : Go p e below Nd Q T (mkF m n Ls (.int (x <<< (y &&& 31)) :: st))) : Go p e below Nd Q T (mkF m pc Ls (.int y :: .int x :: st)) := by
  subst hn; exact Go.stp (fun t q => XT.ishl X.here hx rfl hd rfl q) k
theorem g_ishr (X : Stand p l e R s m args below meth c T locs cells slots) (hx : p.tables.exec = Jvm.exec) {x y : Int32} (hd : decode c.code pc = .ok (.ishr, 1)) (hn : pc + 1 = n) (k : Go p e below Nd Q T (mkF m n Ls (.int (x >>> (y &&& 31)) :: st))) : Go p e below Nd Q T (mkF m pc Ls (.int y :: .int x :: st)) := by
  subst hn; exact Go.stp (fun t q => XT.ishr X.here hx rfl hd rfl q) k
theorem g_iushr (X : Stand p l e R s m args below meth c T locs cells slots) (hx : p.tables.exec = Jvm.exec) {x y : Int32} (hd : decode c.code pc = .ok (.iushr, 1)) (hn : pc + 1 = n) (k : Go p e below Nd Q T (mkF m n Ls (.int (XT.ushr x y) :: st))) : Go p e below Nd Q T (mkF m pc Ls (.int y :: .int x :: st)) := by
  subst hn; exact Go.stp (fun t q => XT.iushr X.here hx rfl hd rfl q) k
theorem g_irem (X : Stand p l e R s m args below meth c T locs cells slots) (hx : p.tables.exec = Jvm.exec) {x y : Int32} (hd : decode c.code pc = .ok (.irem, 1)) (hn : pc + 1 = n) (hy : y ≠ 0) (k : Go p e below Nd Q T (mkF m n Ls (.int (x % y) :: st))) : Go p e below Nd Q T (mkF m pc Ls (.int y :: .int x :: st)) := by
  subst hn; exact Go.stp (fun t q => iremM X hx rfl hd rfl hy q) k
theorem g_ladd (X : Stand p l e R s m args below meth c T locs cells slots) (hx : p.tables.exec = Jvm.exec) {x y : Int64} (hd : decode c.code pc = .ok (.ladd, 1)) (hn : pc + 1 = n) (k : Go p e below Nd Q T (mkF m n Ls (.long (x + y) :: st))) : Go p e below Nd Q T (mkF m pc Ls (.long y :: .long x :: st)) := by
  subst hn; exact Go.stp (fun t q => XT.ladd X.here hx rfl hd rfl q) k
theorem g_lsub (X : Stand p l e R s m args below meth c T locs cells slots) (hx : p.tables.exec = Jvm.exec) {x y : Int64} (hd : decode c.code pc = .ok (.lsub, 1)) (hn : pc + 1 = n) (k : Go p e below Nd Q T (mkF m n Ls (.long (x - y) :: st))) : Go p e below Nd Q T (mkF m pc Ls (.long y :: .long x :: st)) := by
  subst hn; exact Go.stp (fun t q => XT.lsub X.here hx rfl hd rfl q) k
theorem g_lmul (X : Stand p l e R s m args below meth c T locs cells slots) (hx : p.tables.exec = Jvm.exec) {x y : Int64} (hd : decode c.code pc = .ok (.lmul, 1)) (hn : pc + 1 = n) (k : Go p e below Nd Q T (mkF m n Ls (.long (x * y) :: st))) : Go p e below Nd Q T (mkF m pc Ls (.long y :: .long x :: st)) := by
  subst hn; exact Go.stp (fun t q => XT.lmul X.here hx rfl hd rfl q) k
theorem g_land (X : Stand p l e R s m args below meth c T locs cells slots) (hx : p.tables.exec = Jvm.exec) {x y : Int64} (hd : decode c.code pc = .ok (.land, 1)) (hn : pc + 1 = n) (k : Go p e below Nd Q T (mkF m n Ls (.long (x &&& y) :: st))) : Go p e below Nd Q T (mkF m pc Ls (.long y :: .long x :: st)) := by
  subst hn; exact Go.stp (fun t q => XT.land X.here hx rfl hd rfl q) k
theorem g_ldiv (X : Stand p l e R s m args below meth c T locs cells slots) (hx : p.tables.exec = Jvm.exec) {x y : Int64} (hd : decode c.code pc = .ok (.ldiv, 1)) (hn : pc + 1 = n) (hy : y ≠ 0) (k : Go p e below Nd Q T (mkF m n Ls (.long (x / y) :: st))) : Go p e below Nd Q T (mkF m pc Ls (.long y :: .long x :: st)) := by
  subst hn; exact Go.stp (fun t q => XT.ldiv X.here hx rfl hd rfl hy q) k
theorem g_lrem (X : Stand p l e R s m args below meth c T locs cells slots) (hx : p.tables.exec = Jvm.exec) {x y : Int64} (hd : decode c.code pc = .ok (.lrem, 1)) (hn : pc + 1 = n) (hy : y ≠ 0) (k : Go p e below Nd Q T (mkF m n Ls (.long (x - (x / y) * y) :: st))) : Go p e below Nd Q T (mkF m pc Ls (.long y :: .long x :: st)) := by
  subst hn; exact Go.stp (fun t q => XT.lrem X.here hx rfl hd rfl hy q) k
theorem g_lcmp (X : Stand p l e R s m args below meth c T locs cells slots) (hx : p.tables.exec = Jvm.exec) {x y : Int64} (hd : decode c.code pc = .ok (.lcmp, 1)) (hn : pc + 1 = n) (k : Go p e below Nd Q T (mkF m n Ls (.int (XT.cmpL x y) :: st))) : Go p e below Nd Q T (mkF m pc Ls (.long y :: .long x :: st)) := by
  subst hn; exact Go.stp (fun t q => XT.lcmp X.here hx rfl hd rfl q) k
theorem g_lshr (X : Stand p l e R s m args below meth c T locs cells slots) (hx : p.tables.exec = Jvm.exec) {x : Int64} {y : Int32} (hd : decode c.code pc = .ok (.lshr, 1)) (hn : pc + 1 = n) (k : Go p e below Nd Q T (mkF m n Ls (.long (x >>> (y.toInt64 &&& 63)) :: st))) : Go p e below Nd Q T (mkF m pc Ls (.int y :: .long x :: st)) := by
  subst hn; exact Go.stp (fun t q => XT.lshr X.here hx rfl hd rfl q) k
theorem g_lushr (X : Stand p l e R s m args below meth c T locs cells slots) (hx : p.tables.exec = Jvm.exec) {x : Int64} {y : Int32} (hd : decode c.code pc = .ok (.lushr, 1)) (hn : pc + 1 = n) (k : Go p e below Nd Q T (mkF m n Ls (.long (XT.ushrL x y) :: st))) : Go p e below Nd Q T (mkF m pc Ls (.int y :: .long x :: st)) := by
  subst hn; exact Go.stp (fun t q => XT.lushr X.here hx rfl hd rfl q) k
theorem g_lneg (X : Stand p l e R s m args below meth c T locs cells slots) (hx : p.tables.exec = Jvm.exec) {x : Int64} (hd : decode c.code pc = .ok (.lneg, 1)) (hn : pc + 1 = n) (k : Go p e below Nd Q T (mkF m n Ls (.long (-x) :: st))) : Go p e below Nd Q T (mkF m pc Ls (.long x :: st)) := by
  subst hn; exact Go.stp (fun t q => XT.lneg X.here hx rfl hd rfl q) k
theorem g_i2l (X : Stand p l e R s m args below meth c T locs cells slots) (hx : p.tables.exec = Jvm.exec) {x : Int32} (hd : decode c.code pc = .ok (.i2l, 1)) (hn : pc + 1 = n) (k : Go p e below Nd Q T (mkF m n Ls (.long x.toInt64 :: st))) : Go p e below Nd Q T (mkF m pc Ls (.int x :: st)) := by
  subst hn; exact Go.stp (fun t q => XT.i2l X.here hx rfl hd rfl q) k
theorem g_l2i (X : Stand p l e R s m args below meth c T locs cells slots) (hx : p.tables.exec = Jvm.exec) {x : Int64} (hd : decode c.code pc = .ok (.l2i, 1)) (hn : pc + 1 = n) (k : Go p e below Nd Q T (mkF m n Ls (.int x.toInt32 :: st))) : Go p e below Nd Q T (mkF m pc Ls (.long x :: st)) := by
  subst hn; exact Go.stp (fun t q => XT.l2i X.here hx rfl hd rfl q) k
theorem g_i2b (X : Stand p l e R s m args below meth c T locs cells slots) (hx : p.tables.exec = Jvm.exec) {x : Int32} (hd : decode c.code pc = .ok (.i2b, 1)) (hn : pc + 1 = n) (k : Go p e below Nd Q T (mkF m n Ls (.int x.toInt8.toInt32 :: st))) : Go p e below Nd Q T (mkF m pc Ls (.int x :: st)) := by
  subst hn; exact Go.stp (fun t q => XT.i2b X.here hx rfl hd rfl q) k
theorem g_i2c (X : Stand p l e R s m args below meth c T locs cells slots) (hx : p.tables.exec = Jvm.exec) {x : Int32} (hd : decode c.code pc = .ok (.i2c, 1)) (hn : pc + 1 = n) (k : Go p e below Nd Q T (mkF m n Ls (.int x.toUInt32.toUInt16.toUInt32.toInt32 :: st))) : Go p e below Nd Q T (mkF m pc Ls (.int x :: st)) := by
  subst hn; exact Go.stp (fun t q => XT.i2c X.here hx rfl hd rfl q) k
theorem g_dup (X : Stand p l e R s m args below meth c T locs cells slots) (hx : p.tables.exec = Jvm.exec) {x : Value} (hd : decode c.code pc = .ok (.dup, 1)) (hn : pc + 1 = n) (hc : x.category = 1) (k : Go p e below Nd Q T (mkF m n Ls (x :: x :: st))) : Go p e below Nd Q T (mkF m pc Ls (x :: st)) := by
  subst hn; exact Go.stp (fun t q => XS.dup X.here hx rfl hd rfl hc q) k
theorem g_dupX1 (X : Stand p l e R s m args below meth c T locs cells slots) (hx : p.tables.exec = Jvm.exec) {x y : Value} (hd : decode c.code pc = .ok (.dup_x1, 1)) (hn : pc + 1 = n) (hc : x.category = 1) (hc' : y.category = 1) (k : Go p e below Nd Q T (mkF m n Ls (x :: y :: x :: st))) : Go p e below Nd Q T (mkF m pc Ls (x :: y :: st)) := by
  subst hn; exact Go.stp (fun t q => XT.dupX1 X.here hx rfl hd rfl hc hc' q) k
theorem g_pop (X : Stand p l e R s m args below meth c T locs cells slots) (hx : p.tables.exec = Jvm.exec) {x : Value} (hd : decode c.code pc = .ok (.pop, 1)) (hn : pc + 1 = n) (hc : x.category = 1) (k : Go p e below Nd Q T (mkF m n Ls st)) : Go p e below Nd Q T (mkF m pc Ls (x :: st)) := by
  subst hn; exact Go.stp (fun t q => XT.pop X.here hx rfl hd rfl hc q) k
theorem g_iinc (X : Stand p l e R s m args below meth c T locs cells slots) (hx : p.tables.exec = Jvm.exec) {k : Nat} {cst : Int} {x : Int32} (hd : decode c.code pc = .ok (.iinc k cst, 3)) (hn : pc + 3 = n) (hl : Ls[k]? = some (.val (.int x))) (v : Int32) (hv : x + Int32.ofInt cst = v) (Ls' : Array Slot) (hl' : storeLocals Ls k (.int v) = some Ls') (k : Go p e below Nd Q T (mkF m n Ls' st)) : Go p e below Nd Q T (mkF m pc Ls st) := by
  subst hn hv; exact Go.stp (fun t q => XS.iinc X.here hx rfl hd hl hl' q) k
theorem g_goto (X : Stand p l e R s m args below meth c T locs cells slots) (hx : p.tables.exec = Jvm.exec) {o : Int} (hd : decode c.code pc = .ok (.goto o, 3)) (ho : 0 ≤ (pc : Int) + o) (hp : ((pc : Int) + o).toNat = n) (k : Go p e below Nd Q T (mkF m n Ls st)) : Go p e below Nd Q T (mkF m pc Ls st) :=
  Go.stp (fun t q => XS.goto X.here hx rfl rfl hd ho hp q) k
/-- a branch on an int: P is what it asks -/
theorem g_if (X : Stand p l e R s m args below meth c T locs cells slots) (hx : p.tables.exec = Jvm.exec) {cd : ClassFile.Cond} {o : Int} {x : Int32} {n' : Nat} (P : Prop) [Decidable P] (hP : ifCond.holds cd x = decide P) (hd : decode c.code pc = .ok (.ifCond cd o, 3)) (ho : 0 ≤ (pc : Int) + o) (hp : ((pc : Int) + o).toNat = n) (hn : pc + 3 = n')
    (kY : P → Go p e below Nd Q T (mkF m n Ls st)) (kN : ¬ P → Go p e below Nd Q T (mkF m n' Ls st)) : Go p e below Nd Q T (mkF m pc Ls (.int x :: st)) := by
  subst hn
  by_cases q : P
  · exact Go.stp (fun t r => XS.ifYes X.here hx rfl rfl hd rfl (by rw [hP]; exact decide_eq_true q) ho hp r) (kY q)
  · exact Go.stp (fun t r => XS.ifNo X.here hx rfl hd rfl (by rw [hP]; exact decide_eq_false q) r) (kN q)
theorem g_icmp (X : Stand p l e R s m args below meth c T locs cells slots) (hx : p.tables.exec = Jvm.exec) {cd : ClassFile.Cond} {o : Int} {x y : Int32} {n' : Nat} (P : Prop) [Decidable P] (hP : if_icmp.holds cd x y = decide P) (hd : decode c.code pc = .ok (.if_icmp cd o, 3)) (ho : 0 ≤ (pc : Int) + o) (hp : ((pc : Int) + o).toNat = n) (hn : pc + 3 = n')
    (kY : P → Go p e below Nd Q T (mkF m n Ls st)) (kN : ¬ P → Go p e below Nd Q T (mkF m n' Ls st)) : Go p e below Nd Q T (mkF m pc Ls (.int y :: .int x :: st)) := by
  subst hn
  by_cases q : P
  · exact Go.stp (fun t r => XS.icmpYes X.here hx rfl rfl hd rfl (by rw [hP]; exact decide_eq_true q) ho hp r) (kY q)
  · exact Go.stp (fun t r => XS.icmpNo X.here hx rfl hd rfl (by rw [hP]; exact decide_eq_false q) r) (kN q)
theorem own_acV (cd : ACond) (x y : Value) : XT.acmp cd x y = acV cd (decide (x = y)) := by
  cases cd <;> by_cases q : x = y <;> simp [XT.acmp, acV, q]
theorem g_acmp (X : Stand p l e R s m args below meth c T locs cells slots) (hx : p.tables.exec = Jvm.exec) {cd : ACond} {o : Int} {x y : Value} {n' : Nat} (P : Prop) [Decidable P] (hP : acV cd (decide (x = y)) = decide P) (h1 : x.isRef = true) (h2 : y.isRef = true) (hd : decode c.code pc = .ok (.if_acmp cd o, 3)) (ho : 0 ≤ (pc : Int) + o) (hp : ((pc : Int) + o).toNat = n) (hn : pc + 3 = n')
    (kY : P → Go p e below Nd Q T (mkF m n Ls st)) (kN : ¬ P → Go p e below Nd Q T (mkF m n' Ls st)) : Go p e below Nd Q T (mkF m pc Ls (y :: x :: st)) := by
  subst hn
  by_cases q : P
  · exact Go.stp (fun t r => XT.acmpYes X.here hx rfl rfl hd rfl h1 h2 (by rw [own_acV, hP]; exact decide_eq_true q) ho hp r) (kY q)
  · exact Go.stp (fun t r => XT.acmpNo X.here hx rfl hd rfl h1 h2 (by rw [own_acV, hP]; exact decide_eq_false q) r) (kN q)
theorem own_ceq (x y : Int32) : if_icmp.holds .eq x y = decide (x = y) := by by_cases q : x = y <;> simp [if_icmp.holds, q]
theorem own_cne (x y : Int32) : if_icmp.holds .ne x y = decide (¬ x = y) := by by_cases q : x = y <;> simp [if_icmp.holds, q]
theorem own_clt (x y : Int32) : if_icmp.holds .lt x y = decide (x < y) := rfl
theorem own_cge (x y : Int32) : if_icmp.holds .ge x y = decide (y ≤ x) := rfl
theorem own_cgt (x y : Int32) : if_icmp.holds .gt x y = decide (y < x) := rfl
theorem own_cle (x y : Int32) : if_icmp.holds .le x y = decide (x ≤ y) := rfl
theorem own_zeq (x : Int32) : ifCond.holds .eq x = decide (x = 0) := by rw [if0]; exact own_ceq x 0
theorem own_zne (x : Int32) : ifCond.holds .ne x = decide (¬ x = 0) := by rw [if0]; exact own_cne x 0
theorem own_zlt (x : Int32) : ifCond.holds .lt x = decide (x < 0) := rfl
theorem own_zge (x : Int32) : ifCond.holds .ge x = decide (0 ≤ x) := rfl
theorem own_zgt (x : Int32) : ifCond.holds .gt x = decide (0 < x) := rfl
theorem own_zle (x : Int32) : ifCond.holds .le x = decide (x ≤ 0) := rfl
theorem own_aeq (x y : Value) : acV .eq (decide (x = y)) = decide (x = y) := rfl
theorem own_ane (x y : Value) : acV .ne (decide (x = y)) = decide (¬ x = y) := by by_cases q : x = y <;> simp [acV, q]
theorem g_ifnullNo (X : Stand p l e R s m args below meth c T locs cells slots) (hx : p.tables.exec = Jvm.exec) {o : Int} {b : Nat} (hd : decode c.code pc = .ok (.ifnull o, 3)) (hn : pc + 3 = n) (k : Go p e below Nd Q T (mkF m n Ls st)) : Go p e below Nd Q T (mkF m pc Ls (.ref b :: st)) := by
  subst hn; exact Go.stp (fun t q => XS.ifnullNo X.here hx rfl hd rfl q) k
theorem g_ifnullYes (X : Stand p l e R s m args below meth c T locs cells slots) (hx : p.tables.exec = Jvm.exec) {o : Int} (hd : decode c.code pc = .ok (.ifnull o, 3)) (ho : 0 ≤ (pc : Int) + o) (hp : ((pc : Int) + o).toNat = n) (k : Go p e below Nd Q T (mkF m n Ls st)) : Go p e below Nd Q T (mkF m pc Ls (.null :: st)) :=
  Go.stp (fun t q => XS.ifnullYes X.here hx rfl rfl hd rfl ho hp q) k
theorem g_ifnonnullYes (X : Stand p l e R s m args below meth c T locs cells slots) (hx : p.tables.exec = Jvm.exec) {o : Int} {b : Nat} (hd : decode c.code pc = .ok (.ifnonnull o, 3)) (ho : 0 ≤ (pc : Int) + o) (hp : ((pc : Int) + o).toNat = n) (k : Go p e below Nd Q T (mkF m n Ls st)) : Go p e below Nd Q T (mkF m pc Ls (.ref b :: st)) :=
  Go.stp (fun t q => XT.ifnonnullYes X.here hx rfl rfl hd rfl ho hp q) k
/-! the ends -/
theorem g_ret (X : Stand p l e R s m args below meth c T locs cells slots) (hx : p.tables.exec = Jvm.exec) {i : Instr} {t : FieldType} {w : Value} (hret : meth.sig.returnType = some t) (hlk : meth.locks = false) (hnw : narrow t w = w)
    (hi : (i = .ireturn ∧ (t = .int ∨ t = .boolean ∨ t = .byte ∨ t = .char ∨ t = .short) ∧ ∃ z, w = .int z) ∨ (i = .lreturn ∧ t = .long ∧ ∃ z, w = .long z) ∨ (i = .dreturn ∧ t = .double ∧ ∃ z, w = .double z) ∨ (i = .freturn ∧ t = .float ∧ ∃ z, w = .float z) ∨ (i = .areturn ∧ t.isReference = true ∧ w.isRef = true))
    (hd : decode c.code pc = .ok (i, 1)) (hN : ∀ t, FrameEnd s (.returned (some w)) t locs cells slots → t.heap = T.heap → Nd (.returned (some w)) t locs) (hQ : Q (some w) T.heap locs) : Go p e below Nd Q T (mkF m pc Ls (w :: st)) := by
  obtain ⟨fs, hr, hrun, hended, hW, hsame⟩ := X.leave (v := some w) (fun q => by rw [hret] at q; cases q) hlk
  exact ⟨_, _, retOut X hx hret hnw hi hd hr, hrun, hended, _, _, rfl, hQ, hN _ ⟨⟨_, rfl⟩, hW, hsame⟩ rfl⟩
theorem g_retI (X : Stand p l e R s m args below meth c T locs cells slots) (hx : p.tables.exec = Jvm.exec) {w : Int32} (hret : meth.sig.returnType = some .int) (hlk : meth.locks = false) (hd : decode c.code pc = .ok (.ireturn, 1)) (hN : ∀ t, FrameEnd s (.returned (some (.int w))) t locs cells slots → t.heap = T.heap → Nd (.returned (some (.int w))) t locs) (hQ : Q (some (.int w)) T.heap locs) : Go p e below Nd Q T (mkF m pc Ls (.int w :: st)) :=
  g_ret X hx hret hlk rfl (Or.inl ⟨rfl, Or.inl rfl, _, rfl⟩) hd hN hQ
theorem g_retJ (X : Stand p l e R s m args below meth c T locs cells slots) (hx : p.tables.exec = Jvm.exec) {w : Int64} (hret : meth.sig.returnType = some .long) (hlk : meth.locks = false) (hd : decode c.code pc = .ok (.lreturn, 1)) (hN : ∀ t, FrameEnd s (.returned (some (.long w))) t locs cells slots → t.heap = T.heap → Nd (.returned (some (.long w))) t locs) (hQ : Q (some (.long w)) T.heap locs) : Go p e below Nd Q T (mkF m pc Ls (.long w :: st)) :=
  g_ret X hx hret hlk rfl (Or.inr (Or.inl ⟨rfl, rfl, _, rfl⟩)) hd hN hQ
theorem g_retZ (X : Stand p l e R s m args below meth c T locs cells slots) (hx : p.tables.exec = Jvm.exec) {w : Int32} (hw01 : w = 0 ∨ w = 1) (hret : meth.sig.returnType = some .boolean) (hlk : meth.locks = false) (hd : decode c.code pc = .ok (.ireturn, 1)) (hN : ∀ t, FrameEnd s (.returned (some (.int w))) t locs cells slots → t.heap = T.heap → Nd (.returned (some (.int w))) t locs) (hQ : Q (some (.int w)) T.heap locs) : Go p e below Nd Q T (mkF m pc Ls (.int w :: st)) :=
  g_ret X hx hret hlk (by rcases hw01 with rfl | rfl <;> rfl) (Or.inl ⟨rfl, Or.inr (Or.inl rfl), _, rfl⟩) hd hN hQ
theorem g_retN (X : Stand p l e R s m args below meth c T locs cells slots) (hx : p.tables.exec = Jvm.exec) {w : Int32} {t : FieldType} (ht : t = .byte ∨ t = .char ∨ t = .short) (hnw : narrow t (.int w) = .int w) (hret : meth.sig.returnType = some t) (hlk : meth.locks = false) (hd : decode c.code pc = .ok (.ireturn, 1)) (hN : ∀ t, FrameEnd s (.returned (some (.int w))) t locs cells slots → t.heap = T.heap → Nd (.returned (some (.int w))) t locs) (hQ : Q (some (.int w)) T.heap locs) : Go p e below Nd Q T (mkF m pc Ls (.int w :: st)) :=
  g_ret X hx hret hlk hnw (Or.inl ⟨rfl, by rcases ht with rfl | rfl | rfl <;> simp, _, rfl⟩) hd hN hQ
theorem g_retA (X : Stand p l e R s m args below meth c T locs cells slots) (hx : p.tables.exec = Jvm.exec) {w : Value} {t : FieldType} (hret : meth.sig.returnType = some t) (ht : t.isReference = true) (hw : w.isRef = true) (hlk : meth.locks = false) (hd : decode c.code pc = .ok (.areturn, 1)) (hN : ∀ t, FrameEnd s (.returned (some w)) t locs cells slots → t.heap = T.heap → Nd (.returned (some w)) t locs) (hQ : Q (some w) T.heap locs) : Go p e below Nd Q T (mkF m pc Ls (w :: st)) :=
  g_ret X hx hret hlk (by rcases ref_cases hw with rfl | ⟨a, rfl⟩ <;> cases t <;> first | rfl | cases ht) (Or.inr (Or.inr (Or.inr (Or.inr ⟨rfl, ht, hw⟩)))) hd hN hQ
theorem g_retV (X : Stand p l e R s m args below meth c T locs cells slots) (hx : p.tables.exec = Jvm.exec) (hret : meth.sig.returnType = none) (hlk : meth.locks = false) (hd : decode c.code pc = .ok (.return_, 1)) (hN : ∀ t, FrameEnd s (.returned none) t locs cells slots → t.heap = T.heap → Nd (.returned none) t locs) (hQ : Q none T.heap locs) : Go p e below Nd Q T (mkF m pc Ls []) := by
  obtain ⟨fs, hr, hrun, hended, hW, hsame⟩ := X.leave (v := none) (fun _ => rfl) hlk
  exact ⟨_, _, X.returnOut hx hret hd hr, hrun, hended, _, _, rfl, hQ, hN _ ⟨⟨_, rfl⟩, hW, hsame⟩ rfl⟩
/-! tables and heap -/
variable {own : String} {index : Nat}
theorem g_ldcI (X : Stand p l e R s m args below meth c T locs cells slots) (hx : p.tables.exec = Jvm.exec) (hZ : Z.Warmed39 s.vm) {v : Int32} (hown : s.vm.findClass own = some m.cls) (w : (Cond.constant own index v).before a0 Z = true) (hd : decode c.code pc = .ok (.ldc index, 2)) (hn : pc + 2 = n) (k : Go p e below Nd Q T (mkF m n Ls (.int v :: st))) : Go p e below Nd Q T (mkF m pc Ls st) := by
  subst hn; exact Go.stp (fun t q => X.ldcI hx hown (mvT hZ w) rfl hd q) k
theorem g_ldc2 (X : Stand p l e R s m args below meth c T locs cells slots) (hx : p.tables.exec = Jvm.exec) (hZ : Z.Warmed39 s.vm) {v : Int64} (hown : s.vm.findClass own = some m.cls) (w : (Cond.constantLong own index v).before a0 Z = true) (hd : decode c.code pc = .ok (.ldc2_w index, 3)) (hn : pc + 3 = n) (k : Go p e below Nd Q T (mkF m n Ls (.long v :: st))) : Go p e below Nd Q T (mkF m pc Ls st) := by
  subst hn; exact Go.stp (fun t q => X.ldc2J hx hown (mvT hZ w) rfl hd q) k
theorem g_getF (X : Stand p l e R s m args below meth c T locs cells slots) (hx : p.tables.exec = Jvm.exec) (hZ : Z.Warmed39 s.vm) {O f d : String} (hown : s.vm.findClass own = some m.cls) (w : (Cond.fieldLink own index O f d).before a0 Z = true) (eT : T.heap = h) {a : Nat} {v : Value} (F : Fld Z h a O f d v) (hd : decode c.code pc = .ok (.getfield index, 3)) (hn : pc + 3 = n)
    (k : ∀ T', Stand p l e R s m args below meth c T' locs cells slots → T'.heap = h → Go p e below Nd Q T' (mkF m n Ls (v :: st))) : Go p e below Nd Q T (mkF m pc Ls (.ref a :: st)) := by
  subst hn
  obtain ⟨T1, X1, e1, st1⟩ := getF X hx hZ hown (host := "") (Or.inl w) Via.refl eT F (g := mkF m pc Ls (.ref a :: st)) rfl rfl hd
  exact Go.stp st1 (k T1 X1 e1)
theorem g_getS (X : Stand p l e R s m args below meth c T locs cells slots) (hx : p.tables.exec = Jvm.exec) (hZ : Z.Warmed39 s.vm) {O f d : String} (hown : s.vm.findClass own = some m.cls) (w : (Cond.fieldLink own index O f d).before a0 Z = true) (eT : T.heap = h) {v : Value} (F : Sta Z h O f d v) (hd : decode c.code pc = .ok (.getstatic index, 3)) (hn : pc + 3 = n)
    (k : ∀ T', Stand p l e R s m args below meth c T' locs cells slots → T'.heap = h → Go p e below Nd Q T' (mkF m n Ls (v :: st))) : Go p e below Nd Q T (mkF m pc Ls st) := by
  subst hn
  obtain ⟨T1, X1, e1, st1⟩ := getS X hx hZ (host := "") hown w Via.refl eT F (g := mkF m pc Ls st) rfl hd
  exact Go.stp st1 (k T1 X1 e1)
theorem g_putF (X : Stand p l e R s m args below meth c T locs cells slots) (hx : p.tables.exec = Jvm.exec) (hZ : Z.Warmed39 s.vm) {O f d K : String} {kk : Nat} {ty : FieldType} (hown : s.vm.findClass own = some m.cls) (w : (Cond.fieldLink own index O f d).before a0 Z = true) (eT : T.heap = h) {a : Nat} {v old : Value} (F : Fld Z h a O f d old) (E : Exa Z h a K)
    (L : (Cond.lays K O f d).before a0 Z = true ∨ ((Cond.laysFinal K O f d).before a0 Z = true ∧ own = O ∧ meth.name = "<init>")) (wi : (Cond.instantiable K kk).before a0 Z = true) (hty : parseFieldDescriptor d = some ty) (hnw : narrow ty v = v) (hf : fits ty v = true) (hd : decode c.code pc = .ok (.putfield index, 3)) (hn : pc + 3 = n)
    (k : ∀ T' h', Stand p l e R s m args below meth c T' (locs ++ [⟨a, Jvm.RoadKit.slotOf Z O f d⟩]) cells slots → T'.heap = h' → Wr h h' a (Jvm.RoadKit.slotOf Z O f d) v → Go p e below Nd Q T' (mkF m n Ls st)) : Go p e below Nd Q T (mkF m pc Ls (v :: .ref a :: st)) := by
  subst hn
  obtain ⟨T1, h1, X1, e1, W1, st1⟩ := putF X hx hZ hown (host := "") (Or.inl w) Via.refl eT F E L wi hty hnw hf (g := mkF m pc Ls (v :: .ref a :: st)) rfl rfl hd
  exact Go.stp st1 (k T1 h1 X1 e1 W1)
theorem g_new (X : Stand p l e R s m args below meth c T locs cells slots) (hx : p.tables.exec = Jvm.exec) (hZ : Z.Warmed39 s.vm) {K : String} {nn : Nat} (hown : s.vm.findClass own = some m.cls) (w : (Cond.classLink own index K).before a0 Z = true) (wi : (Cond.instantiable K nn).before a0 Z = true) (wz : (Cond.initialized K).before a0 Z = true) (eT : T.heap = h) (hd : decode c.code pc = .ok (.new index, 3)) (hn : pc + 3 = n) (hc : cells + 1 ≤ R.cells) (hl : slots + nn ≤ R.slots)
    (k : ∀ T' h' a, Stand p l e R s m args below meth c T' locs (cells + 1) (slots + nn) → T'.heap = h' → a = h.size → Ext h h' → Exa Z h' a K → (∀ {O f d : String} {ty : FieldType}, Laid Z a0 K O f d → parseFieldDescriptor d = some ty → Fld Z h' a O f d (defaultValue ty)) → Go p e below Nd Q T' (mkF m n Ls (.ref a :: st))) : Go p e below Nd Q T (mkF m pc Ls st) := by
  subst hn
  obtain ⟨T1, h1, X1, e1, E1, A1, D1, -, st1⟩ := newO X hx hZ hown w wi wz eT (g := mkF m pc Ls st) rfl hd hc hl
  exact Go.stp st1 (k T1 h1 h.size X1 e1 rfl E1 A1 D1)
theorem g_initO (X : Stand p l e R s m args below meth c T locs cells slots) (hx : p.tables.exec = Jvm.exec) (hZ : Z.Warmed39 s.vm) (hown : s.vm.findClass own = some m.cls) (w1 : (Cond.methodLink own index Lib.objectInit).before a0 Z = true) (w2 : (Cond.instanceMethod Lib.objectInit).before a0 Z = true) (w3 : (Cond.code Lib.objectInit object_method_1_code 1 none).before a0 Z = true) (eT : T.heap = h) (hsize : Ls.size = c.maxLocals) {a : Nat} (hd : decode c.code pc = .ok (.invokespecial index, 3)) (hn : pc + 3 = n)
    (hf : 1 ≤ R.frames) {W : Nat} (hW : (st.map fun v => v.category).sum ≤ W) (hl : W + 12 ≤ R.locals)
    (k : ∀ T', Stand p l e R s m args below meth c T' locs cells slots → T'.heap = h → Go p e below Nd Q T' (mkF m n Ls st)) : Go p e below Nd Q T (mkF m pc Ls (.ref a :: st)) := by
  subst hn
  obtain ⟨T1, X1, e1, st1⟩ := initO X hx hZ hown w1 w2 w3 eT (g := mkF m pc Ls (.ref a :: st)) rfl hsize rfl hd hf (W := W) (by show 2 * 0 + _ ≤ _; omega) hl
  exact Go.stp st1 (k T1 X1 e1)
theorem g_cast (X : Stand p l e R s m args below meth c T locs cells slots) (hx : p.tables.exec = Jvm.exec) (hZ : Z.Warmed39 s.vm) {K : String} (hown : s.vm.findClass own = some m.cls) (w : (Cond.classLink own index K).before a0 Z = true) (eT : T.heap = h) {a : Nat} (F : Ins Z h a K true) (hd : decode c.code pc = .ok (.checkcast index, 3)) (hn : pc + 3 = n)
    (k : ∀ T', Stand p l e R s m args below meth c T' locs cells slots → T'.heap = h → Go p e below Nd Q T' (mkF m n Ls (.ref a :: st))) : Go p e below Nd Q T (mkF m pc Ls (.ref a :: st)) := by
  subst hn
  obtain ⟨T1, X1, e1, st1⟩ := castY X hx hZ hown w eT F (g := mkF m pc Ls (.ref a :: st)) rfl rfl hd
  exact Go.stp st1 (k T1 X1 e1)
theorem g_inst (X : Stand p l e R s m args below meth c T locs cells slots) (hx : p.tables.exec = Jvm.exec) (hZ : Z.Warmed39 s.vm) {K : String} (hown : s.vm.findClass own = some m.cls) (w : (Cond.classLink own index K).before a0 Z = true) (eT : T.heap = h) {a : Nat} (F : Ins Z h a K true) (hd : decode c.code pc = .ok (.instanceof index, 3)) (hn : pc + 3 = n)
    (k : ∀ T', Stand p l e R s m args below meth c T' locs cells slots → T'.heap = h → Go p e below Nd Q T' (mkF m n Ls (.int 1 :: st))) : Go p e below Nd Q T (mkF m pc Ls (.ref a :: st)) := by
  subst hn
  obtain ⟨T1, X1, e1, st1⟩ := instY X hx hZ hown w eT F (g := mkF m pc Ls (.ref a :: st)) rfl rfl hd
  exact Go.stp st1 (k T1 X1 e1)
/-! calls by contract -/
variable {y z : MethodName} {bytes : ByteArray} {maxL : Nat} {ret : Option FieldType} {rm : Room} {Qc : Option Value → Heap → List Loc → Prop} {ps : List FieldType} {rt : Option FieldType}
/-- a callee's contract over the heap h, with these arguments -/
abbrev OMet (l : Launch) (Z : State) (y : MethodName) (bytes : ByteArray) (maxL : Nat) (ret : Option FieldType) (ws : List Cond) (rm : Room) (as' : Array Value) (h : Heap) (Qc : Option Value → Heap → List Loc → Prop) : Prop :=
  MetFree l y (head1 (Cond.code y bytes maxL ret :: ws) rm) (fun a U => a = as' ∧ Z.Warmed39 U.vm ∧ U.heap = h) (fun _ _ _ _ _ => True) (fun _ U o U' => ∃ v L, o = .returned v ∧ Qc v U'.heap L ∧ FrameEnd U o U' L rm.cells rm.slots)
theorem own_body {ws : List Cond} {as' : Array Value} (hpn : plainFor y = true) (hef : ∀ m, entryFrame m as' maxL = mkF m 0 Ls [])
    (H : ∀ (p : Program) (e : Env) (s : State) (m : MethodId) (below : List Frame) (meth : Method) (c : Code) (s₁ : State), Stand p l e rm s m as' below meth c s₁ [] 0 0 → p.tables.exec = Jvm.exec → c.code = bytes → c.maxLocals = maxL → s.vm.findClass y.cls = some m.cls → meth.name = y.name → meth.sig.returnType = ret → meth.locks = false → Z.Warmed39 s.vm → s₁.heap = h → Go p e below (Fe s rm.cells rm.slots) Qc s₁ (mkF m 0 Ls [])) :
    OMet l Z y bytes maxL ret ws rm as' h Qc := by
  refine MetFree.of_bodySF hpn hisR ?_
  intro p e s m args below meth c s₁ Bd hml0 hP hK
  obtain ⟨rfl, hZ, hh⟩ := hP
  obtain ⟨s₂, o, h1, h2, h3, h4⟩ := H p e s m below meth c s₁ (Stand.of_body Bd) Bd.exec Bd.bytes hml0 (findClass_of_methodNamed Bd.named) (name_of_methodNamed Bd.named Bd.method).1 Bd.returns (BodyLoose.notSynchronized Bd) hZ (by rw [← hh, Bd.state]; rfl)
  exact ⟨s₂, o, castTop (hef m) h1, h2, h3, h4⟩
theorem g_callS (X : Stand p l e R s m args below meth c T locs cells slots) (hx : p.tables.exec = Jvm.exec) (hZ : Z.Warmed39 s.vm) (hown : s.vm.findClass own = some m.cls) (eT : T.heap = h) (w1 : (Cond.methodLink own index y).before a0 Z = true) (w2 : (Cond.static y).before a0 Z = true) (w3 : (Cond.initialized y.cls).before a0 Z = true) (w4 : (Cond.code y bytes maxL ret).before a0 Z = true)
    (hy : y.cls ≠ "java/lang/invoke/MethodHandle" ∧ y.cls ≠ "java/lang/invoke/VarHandle") (as' : List Value) (hM : OMet l Z y bytes maxL ret [] rm as'.toArray h Qc) (hpd : parseMethodDescriptor y.desc = some ⟨ps, rt⟩) (hlen : as'.length = ps.length) (hd : decode c.code pc = .ok (.invokestatic index, 3)) (hn : pc + 3 = n) (hsize : Ls.size = c.maxLocals)
    (hf : rm.frames + 1 ≤ R.frames) (W : Nat) (hW : (st.map fun v => v.category).sum ≤ W) (hl : W + (maxL + 11) + rm.locals ≤ R.locals) (hc : cells + rm.cells ≤ R.cells) (hs : slots + rm.slots ≤ R.slots)
    (k : ∀ T' h' v L, Stand p l e R s m args below meth c T' (locs ++ L) (cells + rm.cells) (slots + rm.slots) → T'.heap = h' → Qc v h' L → Go p e below Nd Q T' (mkF m n Ls (v.toList ++ st))) : Go p e below Nd Q T (mkF m pc Ls (as'.reverse ++ st)) := by
  subst hn
  obtain ⟨v, _, ⟨T1, L1, k1, n1⟩, -, X1, ⟨L, hQ1, l1, y1, z1⟩, st1⟩ := Jvm.LawKit.callS X hx (y := y) hown (mvT hZ w1) (mvT hZ w2) (mvT hZ w3) (mvT hZ w4) hy (backOf (W := W) hM hZ w4 w3 hf hl) (g := mkF m pc Ls (as'.reverse ++ st)) rfl hsize (argsL := as') (rest := st) (lenOf hpd hlen) rfl (by show 2 * 0 + _ ≤ _; omega) hd (fun _ _ => ⟨rfl, eT, hc, hs⟩)
  dsimp only [Pt.U, Pt.locs, Pt.cells, Pt.slots] at X1 l1 y1 z1 st1 hQ1
  subst l1 y1 z1
  exact Go.stp st1 (k T1 _ v L X1 rfl hQ1)
/-- a callee that returns w and changes nothing -/
def Pu (w : Value) (h0 : Heap) (v : Option Value) (h : Heap) (L : List Loc) : Prop := v = some w ∧ L = [] ∧ h = h0
theorem g_callSP (X : Stand p l e R s m args below meth c T locs cells slots) (hx : p.tables.exec = Jvm.exec) (hZ : Z.Warmed39 s.vm) (hown : s.vm.findClass own = some m.cls) (eT : T.heap = h) (w1 : (Cond.methodLink own index y).before a0 Z = true) (w2 : (Cond.static y).before a0 Z = true) (w3 : (Cond.initialized y.cls).before a0 Z = true) (w4 : (Cond.code y bytes maxL ret).before a0 Z = true)
    (hy : y.cls ≠ "java/lang/invoke/MethodHandle" ∧ y.cls ≠ "java/lang/invoke/VarHandle") (as' : List Value) {w : Value} (hM : OMet l Z y bytes maxL ret [] rm as'.toArray h (Pu w h)) (hpd : parseMethodDescriptor y.desc = some ⟨ps, rt⟩) (hlen : as'.length = ps.length) (hd : decode c.code pc = .ok (.invokestatic index, 3)) (hn : pc + 3 = n) (hsize : Ls.size = c.maxLocals)
    (hf : rm.frames + 1 ≤ R.frames) (W : Nat) (hW : (st.map fun v => v.category).sum ≤ W) (hl : W + (maxL + 11) + rm.locals ≤ R.locals) (hc : cells + rm.cells ≤ R.cells) (hs : slots + rm.slots ≤ R.slots)
    (k : ∀ T', Stand p l e R s m args below meth c T' locs (cells + rm.cells) (slots + rm.slots) → T'.heap = h → Go p e below Nd Q T' (mkF m n Ls (w :: st))) : Go p e below Nd Q T (mkF m pc Ls (as'.reverse ++ st)) :=
  g_callS X hx hZ hown eT w1 w2 w3 w4 hy as' hM hpd hlen hd hn hsize hf W hW hl hc hs fun T' h' v L X' e' q => by
    obtain ⟨rfl, rfl, rfl⟩ := q
    rw [List.append_nil] at X'
    exact k T' X' e'
/-- a callee that returns nothing and changes nothing -/
def Pv (h0 : Heap) (v : Option Value) (h : Heap) (L : List Loc) : Prop := v = none ∧ L = [] ∧ h = h0
theorem g_callSV (X : Stand p l e R s m args below meth c T locs cells slots) (hx : p.tables.exec = Jvm.exec) (hZ : Z.Warmed39 s.vm) (hown : s.vm.findClass own = some m.cls) (eT : T.heap = h) (w1 : (Cond.methodLink own index y).before a0 Z = true) (w2 : (Cond.static y).before a0 Z = true) (w3 : (Cond.initialized y.cls).before a0 Z = true) (w4 : (Cond.code y bytes maxL ret).before a0 Z = true)
    (hy : y.cls ≠ "java/lang/invoke/MethodHandle" ∧ y.cls ≠ "java/lang/invoke/VarHandle") (as' : List Value) (hM : OMet l Z y bytes maxL ret [] rm as'.toArray h (Pv h)) (hpd : parseMethodDescriptor y.desc = some ⟨ps, rt⟩) (hlen : as'.length = ps.length) (hd : decode c.code pc = .ok (.invokestatic index, 3)) (hn : pc + 3 = n) (hsize : Ls.size = c.maxLocals)
    (hf : rm.frames + 1 ≤ R.frames) (W : Nat) (hW : (st.map fun v => v.category).sum ≤ W) (hl : W + (maxL + 11) + rm.locals ≤ R.locals) (hc : cells + rm.cells ≤ R.cells) (hs : slots + rm.slots ≤ R.slots)
    (k : ∀ T', Stand p l e R s m args below meth c T' locs (cells + rm.cells) (slots + rm.slots) → T'.heap = h → Go p e below Nd Q T' (mkF m n Ls st)) : Go p e below Nd Q T (mkF m pc Ls (as'.reverse ++ st)) :=
  g_callS X hx hZ hown eT w1 w2 w3 w4 hy as' hM hpd hlen hd hn hsize hf W hW hl hc hs fun T' h' v L X' e' q => by
    obtain ⟨rfl, rfl, rfl⟩ := q
    rw [List.append_nil] at X'
    exact k T' X' e'
theorem g_callI (X : Stand p l e R s m args below meth c T locs cells slots) (hx : p.tables.exec = Jvm.exec) (hZ : Z.Warmed39 s.vm) (hown : s.vm.findClass own = some m.cls) (eT : T.heap = h) (hy1 : y.name = "<init>") (w1 : (Cond.methodLink own index y).before a0 Z = true) (w2 : (Cond.instanceMethod y).before a0 Z = true) (w3 : (Cond.initialized y.cls).before a0 Z = true) (w4 : (Cond.code y bytes maxL none).before a0 Z = true)
    (hy : y.cls ≠ "java/lang/invoke/MethodHandle" ∧ y.cls ≠ "java/lang/invoke/VarHandle") (a : Nat) (as' : List Value) (hM : OMet l Z y bytes maxL none [] rm (.ref a :: as').toArray h Qc) (hpd : parseMethodDescriptor y.desc = some ⟨ps, rt⟩) (hlen : as'.length = ps.length) (hd : decode c.code pc = .ok (.invokespecial index, 3)) (hn : pc + 3 = n) (hsize : Ls.size = c.maxLocals)
    (hf : rm.frames + 1 ≤ R.frames) (W : Nat) (hW : (st.map fun v => v.category).sum ≤ W) (hl : W + (maxL + 11) + rm.locals ≤ R.locals) (hc : cells + rm.cells ≤ R.cells) (hs : slots + rm.slots ≤ R.slots)
    (k : ∀ T' h' v L, Stand p l e R s m args below meth c T' (locs ++ L) (cells + rm.cells) (slots + rm.slots) → T'.heap = h' → Qc v h' L → Go p e below Nd Q T' (mkF m n Ls (v.toList ++ st))) : Go p e below Nd Q T (mkF m pc Ls (as'.reverse ++ .ref a :: st)) := by
  subst hn
  obtain ⟨v, _, ⟨T1, L1, k1, n1⟩, -, X1, ⟨L, hQ1, l1, y1, z1⟩, st1⟩ := X.specialBack hx (y := y) hy1 hown (mvT hZ w1) (mvT hZ w2) (mvT hZ w4) hy (backOf (W := W) hM hZ w4 w3 hf hl) (g := mkF m pc Ls (as'.reverse ++ .ref a :: st)) rfl hsize (Steps.refl _) (a := a) (argsL := as') (rest := st) (lenOf hpd hlen) rfl (by show 2 * 0 + _ ≤ _; omega) hd (fun _ _ => ⟨rfl, eT, hc, hs⟩)
  dsimp only [Pt.U, Pt.locs, Pt.cells, Pt.slots] at X1 l1 y1 z1 st1 hQ1
  subst l1 y1 z1
  exact Go.tr st1 (k T1 _ v L X1 rfl hQ1)
theorem g_callV (X : Stand p l e R s m args below meth c T locs cells slots) (hx : p.tables.exec = Jvm.exec) (hZ : Z.Warmed39 s.vm) (hown : s.vm.findClass own = some m.cls) (eT : T.heap = h) {K : String} (w1 : (Cond.methodLink own index y).before a0 Z = true) (w2 : (Cond.declares y).before a0 Z = true) (hnf : NotFace s y) (w5 : (Cond.selects K y z).before a0 Z = true) (w6 : (Cond.instanceMethod z).before a0 Z = true) (w3 : (Cond.initialized z.cls).before a0 Z = true) (w4 : (Cond.code z bytes maxL ret).before a0 Z = true)
    (hy : y.cls ≠ "java/lang/invoke/MethodHandle" ∧ y.cls ≠ "java/lang/invoke/VarHandle") (a : Nat) (E : Exa Z h a K) (as' : List Value) (hM : OMet l Z z bytes maxL ret [] rm (.ref a :: as').toArray h Qc) (hpd : parseMethodDescriptor y.desc = some ⟨ps, rt⟩) (hlen : as'.length = ps.length) (hd : decode c.code pc = .ok (.invokevirtual index, 3)) (hn : pc + 3 = n) (hsize : Ls.size = c.maxLocals)
    (hf : rm.frames + 1 ≤ R.frames) (W : Nat) (hW : (st.map fun v => v.category).sum ≤ W) (hl : W + (maxL + 11) + rm.locals ≤ R.locals) (hc : cells + rm.cells ≤ R.cells) (hs : slots + rm.slots ≤ R.slots)
    (k : ∀ T' h' v L, Stand p l e R s m args below meth c T' (locs ++ L) (cells + rm.cells) (slots + rm.slots) → T'.heap = h' → Qc v h' L → Go p e below Nd Q T' (mkF m n Ls (v.toList ++ st))) : Go p e below Nd Q T (mkF m pc Ls (as'.reverse ++ .ref a :: st)) := by
  subst hn
  obtain ⟨cq, kq, qa, qb, qc⟩ := isOf hZ eT E
  obtain ⟨v, _, ⟨T1, L1, k1, n1⟩, -, X1, ⟨L, hQ1, l1, y1, z1⟩, st1⟩ := X.virtualBack hx (y := y) (z := z) hown (mvT hZ w1) (mvT hZ w2) hnf (mvT hZ w5) (mvT hZ w6) hy (backOf (W := W) hM hZ w4 w3 hf hl) qa qc (g := mkF m pc Ls (as'.reverse ++ .ref a :: st)) rfl hsize (Steps.refl _) (argsL := as') (rest := st) (lenOf hpd hlen) rfl (by show 2 * 0 + _ ≤ _; omega) hd (fun _ _ => ⟨rfl, eT, hc, hs⟩)
  dsimp only [Pt.U, Pt.locs, Pt.cells, Pt.slots] at X1 l1 y1 z1 st1 hQ1
  subst l1 y1 z1
  exact Go.tr st1 (k T1 _ v L X1 rfl hQ1)
theorem g_callVP (X : Stand p l e R s m args below meth c T locs cells slots) (hx : p.tables.exec = Jvm.exec) (hZ : Z.Warmed39 s.vm) (hown : s.vm.findClass own = some m.cls) (eT : T.heap = h) {K : String} (w1 : (Cond.methodLink own index y).before a0 Z = true) (w2 : (Cond.declares y).before a0 Z = true) (hnf : NotFace s y) (w5 : (Cond.selects K y z).before a0 Z = true) (w6 : (Cond.instanceMethod z).before a0 Z = true) (w3 : (Cond.initialized z.cls).before a0 Z = true) (w4 : (Cond.code z bytes maxL ret).before a0 Z = true)
    (hy : y.cls ≠ "java/lang/invoke/MethodHandle" ∧ y.cls ≠ "java/lang/invoke/VarHandle") (a : Nat) (E : Exa Z h a K) (as' : List Value) {w : Value} (hM : OMet l Z z bytes maxL ret [] rm (.ref a :: as').toArray h (Pu w h)) (hpd : parseMethodDescriptor y.desc = some ⟨ps, rt⟩) (hlen : as'.length = ps.length) (hd : decode c.code pc = .ok (.invokevirtual index, 3)) (hn : pc + 3 = n) (hsize : Ls.size = c.maxLocals)
    (hf : rm.frames + 1 ≤ R.frames) (W : Nat) (hW : (st.map fun v => v.category).sum ≤ W) (hl : W + (maxL + 11) + rm.locals ≤ R.locals) (hc : cells + rm.cells ≤ R.cells) (hs : slots + rm.slots ≤ R.slots)
    (k : ∀ T', Stand p l e R s m args below meth c T' locs (cells + rm.cells) (slots + rm.slots) → T'.heap = h → Go p e below Nd Q T' (mkF m n Ls (w :: st))) : Go p e below Nd Q T (mkF m pc Ls (as'.reverse ++ .ref a :: st)) :=
  g_callV X hx hZ hown eT w1 w2 hnf w5 w6 w3 w4 hy a E as' hM hpd hlen hd hn hsize hf W hW hl hc hs fun T' h' v L X' e' q => by
    obtain ⟨rfl, rfl, rfl⟩ := q
    rw [List.append_nil] at X'
    exact k T' X' e'
theorem own_pad {C' S' : Nat} (X : Stand p l e R s m args below meth c T locs cells slots) (h1 : cells ≤ C') (h2 : slots ≤ S') : Stand p l e R s m args below meth c T locs C' S' :=
  ⟨X.admits, X.cas, X.clock, X.frames, X.room, X.hears, X.method, X.code, X.here, X.tail, X.warmed, X.limits, X.bytes, X.same.mono h1 h2⟩
/-- a private method, called by invokevirtual; wu: any method of the same class that its objects select (so the class is no interface) -/
theorem g_callP (X : Stand p l e R s m args below meth c T locs cells slots) (hx : p.tables.exec = Jvm.exec) (hZ : Z.Warmed39 s.vm) (hown : s.vm.findClass own = some m.cls) (eT : T.heap = h) {u : MethodName} (hu : u.cls = y.cls) (w1 : (Cond.methodLink own index y).before a0 Z = true) (w2 : (Cond.instanceMethod y).before a0 Z = true) (wp : (Cond.privateMethod y).before a0 Z = true) (wu : (Cond.selects u.cls u u).before a0 Z = true) (w3 : (Cond.initialized y.cls).before a0 Z = true) (w4 : (Cond.code y bytes maxL ret).before a0 Z = true)
    (hy : y.cls ≠ "java/lang/invoke/MethodHandle" ∧ y.cls ≠ "java/lang/invoke/VarHandle") (a : Nat) {K : String} (E : Exa Z h a K) (as' : List Value) (hM : OMet l Z y bytes maxL ret [] rm (.ref a :: as').toArray h Qc) (hpd : parseMethodDescriptor y.desc = some ⟨ps, rt⟩) (hlen : as'.length = ps.length) (hd : decode c.code pc = .ok (.invokevirtual index, 3)) (hn : pc + 3 = n) (hsize : Ls.size = c.maxLocals)
    (hf : rm.frames + 1 ≤ R.frames) (W : Nat) (hW : (st.map fun v => v.category).sum ≤ W) (hl : W + (maxL + 11) + rm.locals ≤ R.locals) (hc : cells + rm.cells ≤ R.cells) (hs : slots + rm.slots ≤ R.slots)
    (k : ∀ T' h' v L, Stand p l e R s m args below meth c T' (locs ++ L) (cells + rm.cells) (slots + rm.slots) → T'.heap = h' → Qc v h' L → Go p e below Nd Q T' (mkF m n Ls (v.toList ++ st))) : Go p e below Nd Q T (mkF m pc Ls (as'.reverse ++ .ref a :: st)) := by
  subst hn
  have hpr : s.PrivateAt y := Cond.privateMethod_at (mvP hZ wp (args := args))
  have hin : (Cond.instanceMethod y).before args s = true := mvT hZ w2
  have hus : (Cond.selects u.cls u u).before args s = true := mvT hZ wu
  obtain ⟨cu, ru, mu, u1, -, u3, -, ku, u5, u6⟩ := Cond.selects_spec hus
  have hcu : s.vm.findClass y.cls = some mu.cls := by rw [← hu]; exact findClass_of_methodNamed u3
  have hsel : (Cond.selects y.cls y y).before args s = true := selects_self_of_private hcu u5 u6 hpr hin hy
  obtain ⟨cell, hcell, hob⟩ := E.cell
  obtain ⟨v, _, ⟨T1, L1, k1, n1⟩, -, X1, ⟨L, hQ1, l1, y1, z1⟩, st1⟩ := X.privateBack hx (y := y) hown (mvT hZ w1) hin hsel hpr (mvT hZ w4) hy (backOf (W := W) hM hZ w4 w3 hf hl) (g := mkF m pc Ls (as'.reverse ++ .ref a :: st)) rfl hsize (Steps.refl _) (a := a) (cell := cell) (by rw [eT]; exact hcell) hob (argsL := as') (rest := st) (lenOf hpd hlen) rfl (by show 2 * 0 + _ ≤ _; omega) hd (fun _ _ => ⟨rfl, eT, hc, hs⟩)
  dsimp only [Pt.U, Pt.locs, Pt.cells, Pt.slots] at X1 l1 y1 z1 st1 hQ1
  subst l1 y1 z1
  exact Go.tr st1 (k T1 _ v L X1 rfl hQ1)
/-! arrays: n places, place j holds f j -/
def Av (Z : State) (h : Heap) (a : Nat) (ty : FieldType) (n : Nat) (f : Nat → Value) : Prop := ∃ cl : Cell, Arr Z h a cl ty ∧ cl.slots.size = n ∧ n < 2 ^ 31 ∧ ∀ j, j < n → cl.slots[j]? = some (f j)
variable {h' : Heap} {a b : Nat} {ty : FieldType} {sz : Nat} {f : Nat → Value} {sl : Nat} {v : Value} {ws' : List Nat}
theorem own_elt {K : String} (F : Exa Z h a K) : a < h.size := F.lt
theorem Av.lt (F : Av Z h a ty sz f) : a < h.size := by obtain ⟨c, A, -⟩ := F; exact A.lt
theorem Av.ext (F : Av Z h a ty sz f) (E : Ext h h') : Av Z h' a ty sz f := by obtain ⟨c, A, r⟩ := F; exact ⟨c, A.ext E, r⟩
theorem Av.other (F : Av Z h b ty sz f) (W : Wr h h' a sl v) (q : b ≠ a) : Av Z h' b ty sz f := by obtain ⟨c, A, r⟩ := F; exact ⟨c, A.other W q, r⟩
theorem Av.keep (F : Av Z h a ty sz f) (K : Keep h h' ws') (q : a ∉ ws') : Av Z h' a ty sz f := by obtain ⟨c, A, r⟩ := F; exact ⟨c, ⟨K.2.1 a c A.1 q, A.2⟩, r⟩
theorem Av.bnd (F : Av Z h a ty sz f) : sz < 2 ^ 31 := by obtain ⟨_, _, _, b, _⟩ := F; exact b
theorem Av.congr {f' : Nat → Value} (F : Av Z h a ty sz f) (q : ∀ j, j < sz → f j = f' j) : Av Z h a ty sz f' := by
  obtain ⟨c, A, S, b, H⟩ := F; exact ⟨c, A, S, b, fun j hj => by rw [H j hj, q j hj]⟩
theorem own_in {c : Cell} {k n : Nat} {j : Int32} (hj : j = Int32.ofNat k) (hs : c.slots.size = n) (hk : k < n) (hn : n < 2 ^ 31) : ¬ (j < 0 ∨ c.slots.size ≤ j.toNatClampNeg) ∧ j.toNatClampNeg = k := by
  subst hj hs
  refine ⟨idx_in hk hn, ?_⟩
  have := len_toInt (n := k) (Nat.lt_trans hk hn)
  show (Nat.toInt32 k).toNatClampNeg = k
  simp only [Int32.toNatClampNeg, this]; rfl
theorem own_inc (i : Nat) : Int32.ofNat i + Int32.ofInt 1 = Int32.ofNat (i + 1) := (Int32.ofNat_add i 1).symm
theorem own_le {i n : Nat} (hi : i < 2 ^ 31) (hn : n < 2 ^ 31) : Int32.ofNat n ≤ Int32.ofNat i ↔ n ≤ i := by
  rw [Int32.le_iff_toInt_le, Int32.toInt_ofNat_small hi, Int32.toInt_ofNat_small hn]; omega
theorem own_idx {i : Int32} {j n : Nat} (hj : i = Int32.ofNat j) (h1 : j < n) (h2 : n < 2 ^ 31) : ¬ i < 0 ∧ i < Int32.ofNat n := by
  subst hj
  rw [Int32.lt_iff_toInt_lt, Int32.lt_iff_toInt_lt, Int32.toInt_ofNat_small (by omega), Int32.toInt_ofNat_small h2]
  constructor
  · show ¬ (j : Int) < 0; omega
  · omega
theorem Av.set (F : Av Z h a ty sz f) {k : Nat} (W : Wr h h' a k v) (hk : k < sz) : Av Z h' a ty sz (fun i => if i = k then v else f i) := by
  obtain ⟨c, A, S, b, H⟩ := F
  refine ⟨_, A.same W, by rw [sz_set]; exact S, b, fun j hj => ?_⟩
  simp only [Cell.setSlot]
  by_cases q : j = k
  · subst q; simp [S, hj]
  · rw [Array.getElem?_setIfInBounds_ne (Ne.symm q), H j hj, if_neg q]
theorem Av.new {cA : ClassId} {N : Int32} (A : Arr Z h a (newA cA ty N) ty) (hN : N = Int32.ofNat sz) (hb : sz < 2 ^ 31) : Av Z h a ty sz (fun _ => defaultValue ty) := by
  have e : N.toNatClampNeg = sz := by
    subst hN; have := len_toInt (n := sz) hb; show (Nat.toInt32 sz).toNatClampNeg = sz; simp only [Int32.toNatClampNeg, this]; rfl
  exact ⟨_, A, by rw [sz_new, e], hb, fun j hj => by simp [newA, e, hj]⟩
theorem g_len (X : Stand p l e R s m args below meth c T locs cells slots) (hx : p.tables.exec = Jvm.exec) (hZ : Z.Warmed39 s.vm) (eT : T.heap = h) (F : Av Z h a ty sz f) (hd : decode c.code pc = .ok (.arraylength, 1)) (hn : pc + 1 = n) (k : Go p e below Nd Q T (mkF m n Ls (.int (Int32.ofNat sz) :: st))) : Go p e below Nd Q T (mkF m pc Ls (.ref a :: st)) := by
  subst hn
  obtain ⟨cl, A, S, b, H⟩ := F
  refine Go.stp (fun t q => X.arraylength hx (cell := cl) (by rw [eT]; exact A.1) (State.isArrayOf_alike hZ.alike A.2.1) (g := mkF m pc Ls (.ref a :: st)) rfl rfl hd t q) ?_
  rw [S]; exact k
theorem g_iaload (X : Stand p l e R s m args below meth c T locs cells slots) (hx : p.tables.exec = Jvm.exec) (hZ : Z.Warmed39 s.vm) (eT : T.heap = h) (F : Av Z h a .int sz f) (i : Nat) {j : Int32} (hj : j = Int32.ofNat i) (hi : i < sz) (v : Value) (hv : f i = v) (hd : decode c.code pc = .ok (.iaload, 1)) (hn : pc + 1 = n) (k : Go p e below Nd Q T (mkF m n Ls (v :: st))) : Go p e below Nd Q T (mkF m pc Ls (.int j :: .ref a :: st)) := by
  subst hn hv
  obtain ⟨cl, A, S, b, H⟩ := F
  obtain ⟨q1, q2⟩ := own_in hj S hi b
  exact Go.stp (fun t q => X.iaload hx (j := j) (v := f i) (by rw [eT]; exact A.1) (State.isArrayOf_alike hZ.alike A.2.1) A.2.2 q1 (by rw [q2]; exact H i hi) (g := mkF m pc Ls (.int j :: .ref a :: st)) rfl rfl hd t q) k
theorem g_caload (X : Stand p l e R s m args below meth c T locs cells slots) (hx : p.tables.exec = Jvm.exec) (hZ : Z.Warmed39 s.vm) (eT : T.heap = h) (F : Av Z h a .char sz f) (i : Nat) {j : Int32} (hj : j = Int32.ofNat i) (hi : i < sz) (v : Value) (hv : f i = v) (hd : decode c.code pc = .ok (.caload, 1)) (hn : pc + 1 = n) (k : Go p e below Nd Q T (mkF m n Ls (v :: st))) : Go p e below Nd Q T (mkF m pc Ls (.int j :: .ref a :: st)) := by
  subst hn hv
  obtain ⟨cl, A, S, b, H⟩ := F
  obtain ⟨q1, q2⟩ := own_in hj S hi b
  exact Go.stp (fun t q => X.caload hx (j := j) (v := f i) (by rw [eT]; exact A.1) (State.isArrayOf_alike hZ.alike A.2.1) A.2.2 q1 (by rw [q2]; exact H i hi) (g := mkF m pc Ls (.int j :: .ref a :: st)) rfl rfl hd t q) k
theorem g_baload (X : Stand p l e R s m args below meth c T locs cells slots) (hx : p.tables.exec = Jvm.exec) (hZ : Z.Warmed39 s.vm) (eT : T.heap = h) (F : Av Z h a .byte sz f) (i : Nat) {j : Int32} (hj : j = Int32.ofNat i) (hi : i < sz) (v : Value) (hv : f i = v) (hd : decode c.code pc = .ok (.baload, 1)) (hn : pc + 1 = n) (k : Go p e below Nd Q T (mkF m n Ls (v :: st))) : Go p e below Nd Q T (mkF m pc Ls (.int j :: .ref a :: st)) := by
  subst hn hv
  obtain ⟨cl, A, S, b, H⟩ := F
  obtain ⟨q1, q2⟩ := own_in hj S hi b
  exact Go.stp (fun t q => X.baloadBytes hx (j := j) (v := f i) (by rw [eT]; exact A.1) (State.isArrayOf_alike hZ.alike A.2.1) A.2.2 q1 (by rw [q2]; exact H i hi) (g := mkF m pc Ls (.int j :: .ref a :: st)) rfl rfl hd t q) k
theorem g_aaload (X : Stand p l e R s m args below meth c T locs cells slots) (hx : p.tables.exec = Jvm.exec) (hZ : Z.Warmed39 s.vm) (eT : T.heap = h) (F : Av Z h a ty sz f) (hty : ty.isReference = true) (i : Nat) {j : Int32} (hj : j = Int32.ofNat i) (hi : i < sz) (v : Value) (hv : f i = v) (hd : decode c.code pc = .ok (.aaload, 1)) (hn : pc + 1 = n) (k : Go p e below Nd Q T (mkF m n Ls (v :: st))) : Go p e below Nd Q T (mkF m pc Ls (.int j :: .ref a :: st)) := by
  subst hn hv
  obtain ⟨cl, A, S, b, H⟩ := F
  obtain ⟨q1, q2⟩ := own_in hj S hi b
  exact Go.stp (fun t q => X.aaload hx (j := j) (v := f i) (by rw [eT]; exact A.1) (State.isArrayOf_alike hZ.alike A.2.1) hty A.2.2 q1 (by rw [q2]; exact H i hi) (g := mkF m pc Ls (.int j :: .ref a :: st)) rfl rfl hd t q) k
theorem g_iastore (X : Stand p l e R s m args below meth c T locs cells slots) (hx : p.tables.exec = Jvm.exec) (hZ : Z.Warmed39 s.vm) (eT : T.heap = h) (F : Av Z h a .int sz f) (i : Nat) {j x : Int32} (hj : j = Int32.ofNat i) (hi : i < sz) (hd : decode c.code pc = .ok (.iastore, 1)) (hn : pc + 1 = n)
    (k : ∀ T' h', Stand p l e R s m args below meth c T' (locs ++ [⟨a, i⟩]) cells slots → T'.heap = h' → Wr h h' a i (.int x) → Av Z h' a .int sz (fun w => if w = i then (.int x) else f w) → Go p e below Nd Q T' (mkF m n Ls st)) : Go p e below Nd Q T (mkF m pc Ls (.int x :: .int j :: .ref a :: st)) := by
  subst hn
  have F0 := F
  obtain ⟨cl, A, S, b, H⟩ := F
  obtain ⟨q1, q2⟩ := own_in hj S hi b
  obtain ⟨T1, h1, X1, e1, W1, st1⟩ := stI X hx hZ eT A (j := j) q1 (g := mkF m pc Ls (.int x :: .int j :: .ref a :: st)) rfl rfl hd
  rw [q2] at X1 W1
  exact Go.stp st1 (k T1 h1 X1 e1 W1 (F0.set W1 hi))
theorem g_castore (X : Stand p l e R s m args below meth c T locs cells slots) (hx : p.tables.exec = Jvm.exec) (hZ : Z.Warmed39 s.vm) (eT : T.heap = h) (F : Av Z h a .char sz f) (i : Nat) {j x : Int32} (hj : j = Int32.ofNat i) (hi : i < sz) (hd : decode c.code pc = .ok (.castore, 1)) (hn : pc + 1 = n)
    (k : ∀ T' h', Stand p l e R s m args below meth c T' (locs ++ [⟨a, i⟩]) cells slots → T'.heap = h' → Wr h h' a i (.int (nar .char x)) → Av Z h' a .char sz (fun w => if w = i then (.int (nar .char x)) else f w) → Go p e below Nd Q T' (mkF m n Ls st)) : Go p e below Nd Q T (mkF m pc Ls (.int x :: .int j :: .ref a :: st)) := by
  subst hn
  have F0 := F
  obtain ⟨cl, A, S, b, H⟩ := F
  obtain ⟨q1, q2⟩ := own_in hj S hi b
  obtain ⟨T1, h1, X1, e1, W1, st1⟩ := stC X hx hZ eT A (j := j) q1 (g := mkF m pc Ls (.int x :: .int j :: .ref a :: st)) rfl rfl hd
  rw [q2] at X1 W1
  exact Go.stp st1 (k T1 h1 X1 e1 W1 (F0.set W1 hi))
theorem g_bastore (X : Stand p l e R s m args below meth c T locs cells slots) (hx : p.tables.exec = Jvm.exec) (hZ : Z.Warmed39 s.vm) (eT : T.heap = h) (F : Av Z h a .byte sz f) (i : Nat) {j x : Int32} (hj : j = Int32.ofNat i) (hi : i < sz) (hd : decode c.code pc = .ok (.bastore, 1)) (hn : pc + 1 = n)
    (k : ∀ T' h', Stand p l e R s m args below meth c T' (locs ++ [⟨a, i⟩]) cells slots → T'.heap = h' → Wr h h' a i (.int (nar .byte x)) → Av Z h' a .byte sz (fun w => if w = i then (.int (nar .byte x)) else f w) → Go p e below Nd Q T' (mkF m n Ls st)) : Go p e below Nd Q T (mkF m pc Ls (.int x :: .int j :: .ref a :: st)) := by
  subst hn
  have F0 := F
  obtain ⟨cl, A, S, b, H⟩ := F
  obtain ⟨q1, q2⟩ := own_in hj S hi b
  obtain ⟨T1, h1, X1, e1, W1, st1⟩ := stB X hx hZ eT A (j := j) q1 (g := mkF m pc Ls (.int x :: .int j :: .ref a :: st)) rfl rfl hd
  rw [q2] at X1 W1
  exact Go.stp st1 (k T1 h1 X1 e1 W1 (F0.set W1 hi))
theorem g_aastore (X : Stand p l e R s m args below meth c T locs cells slots) (hx : p.tables.exec = Jvm.exec) (hZ : Z.Warmed39 s.vm) (eT : T.heap = h) (F : Av Z h a ty sz f) (hty : ty.isReference = true) (i : Nat) {j : Int32} (hj : j = Int32.ofNat i) (hi : i < sz) (hS : Sto Z h a v) (hd : decode c.code pc = .ok (.aastore, 1)) (hn : pc + 1 = n)
    (k : ∀ T' h', Stand p l e R s m args below meth c T' (locs ++ [⟨a, i⟩]) cells slots → T'.heap = h' → Wr h h' a i v → Av Z h' a ty sz (fun w => if w = i then v else f w) → Go p e below Nd Q T' (mkF m n Ls st)) : Go p e below Nd Q T (mkF m pc Ls (v :: .int j :: .ref a :: st)) := by
  subst hn
  have F0 := F
  obtain ⟨cl, A, S, b, H⟩ := F
  obtain ⟨q1, q2⟩ := own_in hj S hi b
  obtain ⟨T1, h1, X1, e1, W1, st1⟩ := stR X hx hZ eT A (j := j) q1 hty hS (g := mkF m pc Ls (v :: .int j :: .ref a :: st)) rfl rfl hd
  rw [q2] at X1 W1
  exact Go.stp st1 (k T1 h1 X1 e1 W1 (F0.set W1 hi))
theorem g_newarray (X : Stand p l e R s m args below meth c T locs cells slots) (hx : p.tables.exec = Jvm.exec) (hZ : Z.Warmed39 s.vm) {aty : ArrayType} (ty : FieldType) (hty : newarray.typeOf aty = ty) (w : (Cond.arrayClass ty).before a0 Z = true) (eT : T.heap = h) {N : Int32} (sz : Nat) (hN : N = Int32.ofNat sz) (cap : Nat) (hcap : sz ≤ cap) (hb : cap * 8 ≤ 536870912) (hc : cells + 1 ≤ R.cells) (hl : slots + cap ≤ R.slots) (hd : decode c.code pc = .ok (.newarray aty, 2)) (hn : pc + 2 = n)
    (k : ∀ T' h' a, Stand p l e R s m args below meth c T' locs (cells + 1) (slots + cap) → T'.heap = h' → a = h.size → Ext h h' → Av Z h' a ty sz (fun _ => defaultValue ty) → Go p e below Nd Q T' (mkF m n Ls (.ref a :: st))) : Go p e below Nd Q T (mkF m pc Ls (.int N :: st)) := by
  subst hn hty
  have hb' : sz < 2 ^ 31 := by omega
  have e0 := len_toInt (n := sz) hb'
  have e : N.toNatClampNeg = sz := by subst hN; show (Nat.toInt32 sz).toNatClampNeg = sz; simp only [Int32.toNatClampNeg, e0]; rfl
  have hneg : ¬ N < 0 := by subst hN; rw [Int32.lt_iff_toInt_lt]; show ¬ (Nat.toInt32 sz).toInt < 0; rw [e0]; omega
  obtain ⟨T1, h1, cA, X1, e1, E1, A1, st1⟩ := newP X hx hZ w eT (g := mkF m pc Ls (.int N :: st)) rfl hd rfl hneg (cap := cap) (by rw [e]; exact hcap) hb hc hl
  exact Go.stp st1 (k T1 h1 h.size X1 e1 rfl E1 (Av.new A1 hN hb'))
theorem g_anewarray (X : Stand p l e R s m args below meth c T locs cells slots) (hx : p.tables.exec = Jvm.exec) (hZ : Z.Warmed39 s.vm) {K : String} (hown : s.vm.findClass own = some m.cls) (w1 : (Cond.classLink own index K).before a0 Z = true) (w2 : (Cond.arrayOver (.object K)).before a0 Z = true) (eT : T.heap = h) {N : Int32} (sz : Nat) (hN : N = Int32.ofNat sz) (cap : Nat) (hcap : sz ≤ cap) (hb : cap * 8 ≤ 536870912) (hc : cells + 1 ≤ R.cells) (hl : slots + cap ≤ R.slots) (hd : decode c.code pc = .ok (.anewarray index, 3)) (hn : pc + 3 = n)
    (k : ∀ T' h' a, Stand p l e R s m args below meth c T' locs (cells + 1) (slots + cap) → T'.heap = h' → a = h.size → Ext h h' → Av Z h' a (.object K) sz (fun _ => .null) → (∃ cl : Cell, h'[a]? = some cl ∧ Ovr Z cl.cls K) → Go p e below Nd Q T' (mkF m n Ls (.ref a :: st))) : Go p e below Nd Q T (mkF m pc Ls (.int N :: st)) := by
  subst hn
  have hb' : sz < 2 ^ 31 := by omega
  have e0 := len_toInt (n := sz) hb'
  have e : N.toNatClampNeg = sz := by subst hN; show (Nat.toInt32 sz).toNatClampNeg = sz; simp only [Int32.toNatClampNeg, e0]; rfl
  have hneg : ¬ N < 0 := by subst hN; rw [Int32.lt_iff_toInt_lt]; show ¬ (Nat.toInt32 sz).toInt < 0; rw [e0]; omega
  obtain ⟨T1, h1, cA, X1, e1, E1, A1, O1, st1⟩ := newR X hx hZ hown w1 w2 eT (g := mkF m pc Ls (.int N :: st)) rfl hd rfl hneg (cap := cap) (by rw [e]; exact hcap) hb hc hl
  exact Go.stp st1 (k T1 h1 h.size X1 e1 rfl E1 (Av.new A1 hN hb') ⟨_, A1.1, O1⟩)
theorem own_arv {f : Nat → Value} {sz : Nat} (F : Av Z h a ty sz f) (hf : ∀ j, j < sz → fits ty (f j) = true) : ∃ k, Arv Z h a k ty (Int32.ofNat sz) ((List.range sz).map f) .null := by
  obtain ⟨cl, A, S, b, H⟩ := F
  have e0 := len_toInt (n := sz) b
  have g : ∀ j, j < sz → ((List.range sz).map f).getD j .null = f j := fun j hj => by simp [List.getD_eq_getElem?_getD, hj]
  refine ⟨cl.cls, cl, A, rfl, ?_, ?_, fun j hj => ?_, fun j hj => ?_⟩
  · rw [S]; show sz = (Nat.toInt32 sz).toNatClampNeg; simp only [Int32.toNatClampNeg, e0]; rfl
  · rw [Int32.lt_iff_toInt_lt]; show ¬ (Nat.toInt32 sz).toInt < 0; rw [e0]; omega
  · rw [S] at hj; rw [g j hj]; exact H j hj
  · rw [S] at hj; rw [g j hj]; exact hf j hj
theorem own_stoL : ∀ (us : List Value), (∀ u ∈ us, Sto Z h a u) → StoL Z h a us
  | [], _ => trivial
  | u :: r, q => ⟨q u (by simp), own_stoL r (fun x hx => q x (by simp [hx]))⟩
theorem own_nat {k : Nat} (hk : k < 2 ^ 31) : (Int32.ofNat k).toNatClampNeg = k ∧ ¬ Int32.ofNat k < 0 := by
  have e0 := len_toInt (n := k) hk
  constructor
  · show (Nat.toInt32 k).toNatClampNeg = k; simp only [Int32.toNatClampNeg, e0]; rfl
  · rw [Int32.lt_iff_toInt_lt]; show ¬ (Nat.toInt32 k).toInt < 0; rw [e0]; omega
/-- System.arraycopy within bounds, what is copied fitting -/
theorem g_acopy (X : Stand p l e R s m args below meth c T locs cells slots) (hx : p.tables.exec = Jvm.exec) (hZ : Z.Warmed39 s.vm) (hown : s.vm.findClass own = some m.cls) (w1 : (Cond.methodLink own index ⟨"java/lang/System", "arraycopy", "(Ljava/lang/Object;ILjava/lang/Object;II)V"⟩).before a0 Z = true) (w2 : (Cond.native ⟨"java/lang/System", "arraycopy", "(Ljava/lang/Object;ILjava/lang/Object;II)V"⟩).before a0 Z = true) (w3 : (Cond.static ⟨"java/lang/System", "arraycopy", "(Ljava/lang/Object;ILjava/lang/Object;II)V"⟩).before a0 Z = true) (w4 : (Cond.initialized "java/lang/System").before a0 Z = true) (eT : T.heap = h)
    {f' : Nat → Value} {sz' : Nat} (A : Av Z h a ty sz f) (B : Av Z h b ty sz' f') (hfA : ∀ j, j < sz → fits ty (f j) = true) (hfB : ∀ j, j < sz' → fits ty (f' j) = true) (sp dp nn : Nat) (hty : refKind ty = false ∨ (refKind ty = true ∧ ∀ i, i < nn → Sto Z h b (f (sp + i)))) (h4 : sp + nn ≤ sz) (h5 : dp + nn ≤ sz')
    {vs vd vn : Int32} (hvs : vs = Int32.ofNat sp) (hvd : vd = Int32.ofNat dp) (hvn : vn = Int32.ofNat nn) {n0 : Nat} (N : Fr n0 locs) (ge : n0 ≤ b) (hd : decode c.code pc = .ok (.invokestatic index, 3)) (hn : pc + 3 = n) (hsize : Ls.size = c.maxLocals) (hf : 1 ≤ R.frames) (W : Nat) (hW : (st.map fun v => v.category).sum ≤ W) (hlo : W + (nativeFrameWords "java/lang/System" "arraycopy" 5 + 11) ≤ R.locals)
    (k : ∀ T' h' L, Stand p l e R s m args below meth c T' L cells slots → T'.heap = h' → Fr n0 L → Keep h h' [b] → Av Z h' b ty sz' (fun j => if dp ≤ j ∧ j < dp + nn then f (sp + (j - dp)) else f' j) → Go p e below Nd Q T' (mkF m n Ls st)) : Go p e below Nd Q T (mkF m pc Ls (.int vn :: .int vd :: .ref b :: .int vs :: .ref a :: st)) := by
  subst hn hvs hvd hvn
  have bA := A.bnd
  have bB := B.bnd
  obtain ⟨kA, VA⟩ := own_arv A hfA
  obtain ⟨kB, VB⟩ := own_arv B hfB
  obtain ⟨s1, s2⟩ := own_nat (k := sp) (by omega)
  obtain ⟨d1, d2⟩ := own_nat (k := dp) (by omega)
  obtain ⟨l1, l2⟩ := own_nat (k := nn) (by omega)
  obtain ⟨zA, -⟩ := own_nat (k := sz) bA
  obtain ⟨zB, -⟩ := own_nat (k := sz') bB
  have hus : (List.range nn).map (fun i => f (sp + i)) = (List.range (Int32.ofNat nn).toNatClampNeg).map fun i => ((List.range sz).map f).getD ((Int32.ofNat sp).toNatClampNeg + i) .null := by
    rw [l1, s1]
    apply List.map_congr_left
    intro i hi
    have := List.mem_range.mp hi
    simp [List.getD_eq_getElem?_getD, show sp + i < sz by omega]
  obtain ⟨T1, h1, L1, X1, e1, N1, K1, V1, st1⟩ := cpA X hx hZ hown w1 w2 w3 w4 eT (us := (List.range nn).map (fun i => f (sp + i))) VA VB (by
      rcases hty with q | ⟨q1, q2⟩
      · exact Or.inl ⟨rfl, q⟩
      · refine Or.inr ⟨q1, q1, own_stoL _ (fun u hu => ?_)⟩
        obtain ⟨i, hi, rfl⟩ := List.mem_map.mp hu
        exact q2 i (List.mem_range.mp hi)) s2 d2 l2 (by rw [s1, l1, zA]; exact h4) (by rw [d1, l1, zB]; exact h5) hus (by rw [d1, l1]; simpa using h5) N ge (g := mkF m pc Ls (.int (Int32.ofNat nn) :: .int (Int32.ofNat dp) :: .ref b :: .int (Int32.ofNat sp) :: .ref a :: st)) rfl hsize rfl hd hf (W := W) (by show 2 * 0 + _ ≤ _; omega) hlo
  refine Go.stp st1 (k T1 h1 L1 X1 e1 N1 K1 ?_)
  obtain ⟨cl, A1, -, S1, -, H1, -⟩ := V1
  rw [zB] at S1
  refine ⟨cl, A1, S1, bB, fun j hj => ?_⟩
  rw [H1 j (by rw [S1]; exact hj), d1, l1]
  congr 1
  simp only [List.getD_eq_getElem?_getD]
  by_cases c1 : j < dp
  · rw [if_neg (by omega), List.append_assoc, List.getElem?_append_left (by simp; omega)]
    simp [List.getElem?_take, c1, hj]
  · by_cases c2 : j < dp + nn
    · rw [if_pos ⟨by omega, c2⟩, List.getElem?_append_left (by simp; omega), List.getElem?_append_right (by simp; omega)]
      simp [show min dp sz' = dp by omega, show j - dp < nn by omega]
    · rw [if_neg (by omega), List.getElem?_append_right (by simp; omega)]
      simp [show min dp sz' = dp by omega, List.getElem?_drop, show dp + nn + (j - (dp + nn)) = j by omega, hj]
end OwnKit

theorem pd_0 : parseMethodDescriptor "()V" = some ⟨[], none⟩ := by decide +kernel
theorem pd_1 : parseMethodDescriptor "(II)I" = some ⟨[.int, .int], some (.int)⟩ := by decide +kernel
theorem pd_2 : parseMethodDescriptor "(III)V" = some ⟨[.int, .int, .int], none⟩ := by decide +kernel
theorem pd_3 : parseMethodDescriptor "([Ljava/lang/Object;IILjava/lang/Object;)V" = some ⟨[.array (.object "java/lang/Object"), .int, .int, .object "java/lang/Object"], none⟩ := by decide +kernel
theorem pd_4 : parseMethodDescriptor "()Lcom/example/arenabuddy/arenabuddy/LeaseMemory;" = some ⟨[], some (.object "com/example/arenabuddy/arenabuddy/LeaseMemory")⟩ := by decide +kernel
theorem pd_5 : parseMethodDescriptor "(Lcom/example/arenabuddy/arenabuddy/LeaseMemory;Lcom/example/arenabuddy/arenabuddy/LeaseMemory;Lcom/example/arenabuddy/arenabuddy/LeaseMemory;Lcom/example/arenabuddy/arenabuddy/LeaseMemory;)Z" = some ⟨[.object "com/example/arenabuddy/arenabuddy/LeaseMemory", .object "com/example/arenabuddy/arenabuddy/LeaseMemory", .object "com/example/arenabuddy/arenabuddy/LeaseMemory", .object "com/example/arenabuddy/arenabuddy/LeaseMemory"], some (.boolean)⟩ := by decide +kernel
theorem pd_6 : parseMethodDescriptor "(Lcom/example/arenabuddy/arenabuddy/LeaseMemory;)V" = some ⟨[.object "com/example/arenabuddy/arenabuddy/LeaseMemory"], none⟩ := by decide +kernel
theorem own_sub0 (x : Int32) : x - (0 : Int32) = x := by simp
theorem own_add1 (i : Nat) : Int32.ofNat i + (1 : Int32) = Int32.ofNat (i + 1) := own_inc i
def own_max (x y : Int32) : Int32 := if x < y then y else x
def own_min (x y : Int32) : Int32 := if y < x then y else x
/-- a record as it is made: the fields that 'clear' looks at hold null -/
def Lm (Z : State) (h : Heap) (a : Nat) : Prop := Exa Z h a "com/example/arenabuddy/arenabuddy/LeaseMemory" ∧ Fld Z h a "com/example/arenabuddy/arenabuddy/LeaseMemory" "cache" "Lcom/example/arenabuddy/arenabuddy/ThreadCache;" .null ∧ Fld Z h a "com/example/arenabuddy/arenabuddy/LeaseMemory" "chunk" "Lcom/example/arenabuddy/arenabuddy/chunk/Chunk;" .null ∧ Fld Z h a "com/example/arenabuddy/arenabuddy/LeaseMemory" "slotRun" "Lcom/example/arenabuddy/arenabuddy/chunk/SlotRun;" .null ∧ Fld Z h a "com/example/arenabuddy/arenabuddy/LeaseMemory" "view" "Ljava/nio/ByteBuffer;" .null ∧ Fld Z h a "com/example/arenabuddy/arenabuddy/LeaseMemory" "reused" "Lcom/example/arenabuddy/arenabuddy/Lease;" .null
def Sr (Z : State) (h : Heap) (o r : Nat) (cnt few : Int32) : Prop := Exa Z h o "com/example/arenabuddy/arenabuddy/SpareRecords" ∧ Fld Z h o "com/example/arenabuddy/arenabuddy/SpareRecords" "records" "[Lcom/example/arenabuddy/arenabuddy/LeaseMemory;" (.ref r) ∧ Fld Z h o "com/example/arenabuddy/arenabuddy/SpareRecords" "count" "I" (.int cnt) ∧ Fld Z h o "com/example/arenabuddy/arenabuddy/SpareRecords" "fewest" "I" (.int few) ∧ ∃ mst : Int32, Fld Z h o "com/example/arenabuddy/arenabuddy/SpareRecords" "most" "I" (.int mst)
def Ro (Z : State) (h : Heap) (r : Nat) (f : Nat → Value) : Prop := Av Z h r (.object "com/example/arenabuddy/arenabuddy/LeaseMemory") 16 f ∧ (∃ cl : Cell, h[r]? = some cl ∧ Ovr Z cl.cls "com/example/arenabuddy/arenabuddy/LeaseMemory") ∧ ∀ j, j < 16 → f j = .null ∨ ∃ y, f j = .ref y ∧ Exa Z h y "com/example/arenabuddy/arenabuddy/LeaseMemory"
section OwnQ
variable {Z : State} {a0 : Array Value} {h h' : Heap} {a b o r : Nat} {cnt few : Int32} {f : Nat → Value} {sl : Nat} {v : Value} {ws : List Nat}
theorem Lm.ext (F : Lm Z h a) (E : Ext h h') : Lm Z h' a := ⟨F.1.ext E, F.2.1.ext E, F.2.2.1.ext E, F.2.2.2.1.ext E, F.2.2.2.2.1.ext E, F.2.2.2.2.2.ext E⟩
theorem Lm.keep (F : Lm Z h a) (K : Keep h h' ws) (q : a ∉ ws) : Lm Z h' a := ⟨F.1.keep K, F.2.1.keep K q, F.2.2.1.keep K q, F.2.2.2.1.keep K q, F.2.2.2.2.1.keep K q, F.2.2.2.2.2.keep K q⟩
theorem Sr.ext (F : Sr Z h o r cnt few) (E : Ext h h') : Sr Z h' o r cnt few := by obtain ⟨e, f1, f2, f3, m, f4⟩ := F; exact ⟨e.ext E, f1.ext E, f2.ext E, f3.ext E, m, f4.ext E⟩
theorem Sr.keep (F : Sr Z h o r cnt few) (K : Keep h h' ws) (q : o ∉ ws) : Sr Z h' o r cnt few := by obtain ⟨e, f1, f2, f3, m, f4⟩ := F; exact ⟨e.keep K, f1.keep K q, f2.keep K q, f3.keep K q, m, f4.keep K q⟩
theorem Sr.other (F : Sr Z h o r cnt few) (W : Wr h h' b sl v) (q : o ≠ b) : Sr Z h' o r cnt few := F.keep (Keep.of_wr W) (ninS q nin0)
theorem own_ovr {C : String} (q : ∃ cl : Cell, h[r]? = some cl ∧ Ovr Z cl.cls C) (K : Keep h h' ws) : ∃ cl : Cell, h'[r]? = some cl ∧ Ovr Z cl.cls C := by
  obtain ⟨cl, q1, q2⟩ := q; obtain ⟨c', r1, r2, -⟩ := K.2.2 _ _ q1; exact ⟨c', r1, by rw [r2]; exact q2⟩
theorem Ro.keep (F : Ro Z h r f) (K : Keep h h' ws) (q : r ∉ ws) : Ro Z h' r f := ⟨F.1.keep K q, own_ovr F.2.1 K, fun j hj => (F.2.2 j hj).imp id fun ⟨y, q1, q2⟩ => ⟨y, q1, q2.keep K⟩⟩
theorem Ro.other (F : Ro Z h r f) (W : Wr h h' b sl v) (q : r ≠ b) : Ro Z h' r f := F.keep (Keep.of_wr W) (ninS q nin0)
theorem Ro.set (F : Ro Z h r f) {k : Nat} (W : Wr h h' r k v) (hk : k < 16) (hv : v = .null ∨ ∃ y, v = .ref y ∧ Exa Z h y "com/example/arenabuddy/arenabuddy/LeaseMemory") : Ro Z h' r (fun i => if i = k then v else f i) := ⟨F.1.set W hk, own_ovr F.2.1 (Keep.of_wr W), fun j hj => by
  by_cases q : j = k
  · simp only [q, if_true]; exact hv.imp id fun ⟨y, q1, q2⟩ => ⟨y, q1, q2.wr W⟩
  · simp only [q, if_false]; exact (F.2.2 j hj).imp id fun ⟨y, q1, q2⟩ => ⟨y, q1, q2.wr W⟩⟩
theorem Ro.sto (F : Ro Z h r f) {v : Value} (hv : v = .null ∨ ∃ y, v = .ref y ∧ Exa Z h y "com/example/arenabuddy/arenabuddy/LeaseMemory") : Sto Z h r v := by
  rcases hv with rfl | ⟨y, rfl, E⟩
  · exact Or.inl rfl
  · obtain ⟨cl, A, -⟩ := F.1
    obtain ⟨cl2, q1, q2⟩ := F.2.1
    cases A.1.symm.trans q1
    exact Sto.of A q2 (Ins.self E)
theorem Ro.fits (F : Ro Z h r f) : ∀ j, j < 16 → fits (.object "com/example/arenabuddy/arenabuddy/LeaseMemory") (f j) = true := fun j hj => by
  rcases F.2.2 j hj with q | ⟨y, q, -⟩ <;> rw [q] <;> rfl
theorem Sr.wrecords (hw : ∀ d ∈ tables_1, d.before a0 Z = true) (r' : Nat) (F : Sr Z h o r cnt few) (W : Wr h h' o (Jvm.RoadKit.slotOf Z "com/example/arenabuddy/arenabuddy/SpareRecords" "records" "[Lcom/example/arenabuddy/arenabuddy/LeaseMemory;") (.ref r')) : Sr Z h' o r' cnt few := by
  obtain ⟨e, f1, f2, f3, m, f4⟩ := F
  exact ⟨e.wr W, f1.same W, f2.other W (Or.inr (slot_ne (Or.inl (hw _ (List.mem_of_getElem? (i := 30) rfl))) (Or.inl (hw _ (List.mem_of_getElem? (i := 12) rfl))) (by decide) (t := .int) (t' := .array (.object "com/example/arenabuddy/arenabuddy/LeaseMemory")) (by decide +kernel) (by decide +kernel))), f3.other W (Or.inr (slot_ne (Or.inl (hw _ (List.mem_of_getElem? (i := 32) rfl))) (Or.inl (hw _ (List.mem_of_getElem? (i := 12) rfl))) (by decide) (t := .int) (t' := .array (.object "com/example/arenabuddy/arenabuddy/LeaseMemory")) (by decide +kernel) (by decide +kernel))), m, f4.other W (Or.inr (slot_ne (Or.inl (hw _ (List.mem_of_getElem? (i := 34) rfl))) (Or.inl (hw _ (List.mem_of_getElem? (i := 12) rfl))) (by decide) (t := .int) (t' := .array (.object "com/example/arenabuddy/arenabuddy/LeaseMemory")) (by decide +kernel) (by decide +kernel)))⟩
theorem Sr.wcount (hw : ∀ d ∈ tables_1, d.before a0 Z = true) (c' : Int32) (F : Sr Z h o r cnt few) (W : Wr h h' o (Jvm.RoadKit.slotOf Z "com/example/arenabuddy/arenabuddy/SpareRecords" "count" "I") (.int c')) : Sr Z h' o r c' few := by
  obtain ⟨e, f1, f2, f3, m, f4⟩ := F
  exact ⟨e.wr W, f1.other W (Or.inr (slot_ne (Or.inl (hw _ (List.mem_of_getElem? (i := 12) rfl))) (Or.inl (hw _ (List.mem_of_getElem? (i := 30) rfl))) (by decide) (t := .array (.object "com/example/arenabuddy/arenabuddy/LeaseMemory")) (t' := .int) (by decide +kernel) (by decide +kernel))), f2.same W, f3.other W (Or.inr (slot_ne (Or.inl (hw _ (List.mem_of_getElem? (i := 32) rfl))) (Or.inl (hw _ (List.mem_of_getElem? (i := 30) rfl))) (by decide) (t := .int) (t' := .int) (by decide +kernel) (by decide +kernel))), m, f4.other W (Or.inr (slot_ne (Or.inl (hw _ (List.mem_of_getElem? (i := 34) rfl))) (Or.inl (hw _ (List.mem_of_getElem? (i := 30) rfl))) (by decide) (t := .int) (t' := .int) (by decide +kernel) (by decide +kernel)))⟩
theorem Sr.wfewest (hw : ∀ d ∈ tables_1, d.before a0 Z = true) (c' : Int32) (F : Sr Z h o r cnt few) (W : Wr h h' o (Jvm.RoadKit.slotOf Z "com/example/arenabuddy/arenabuddy/SpareRecords" "fewest" "I") (.int c')) : Sr Z h' o r cnt c' := by
  obtain ⟨e, f1, f2, f3, m, f4⟩ := F
  exact ⟨e.wr W, f1.other W (Or.inr (slot_ne (Or.inl (hw _ (List.mem_of_getElem? (i := 12) rfl))) (Or.inl (hw _ (List.mem_of_getElem? (i := 32) rfl))) (by decide) (t := .array (.object "com/example/arenabuddy/arenabuddy/LeaseMemory")) (t' := .int) (by decide +kernel) (by decide +kernel))), f2.other W (Or.inr (slot_ne (Or.inl (hw _ (List.mem_of_getElem? (i := 30) rfl))) (Or.inl (hw _ (List.mem_of_getElem? (i := 32) rfl))) (by decide) (t := .int) (t' := .int) (by decide +kernel) (by decide +kernel))), f3.same W, m, f4.other W (Or.inr (slot_ne (Or.inl (hw _ (List.mem_of_getElem? (i := 34) rfl))) (Or.inl (hw _ (List.mem_of_getElem? (i := 32) rfl))) (by decide) (t := .int) (t' := .int) (by decide +kernel) (by decide +kernel)))⟩
theorem Sr.wmost (hw : ∀ d ∈ tables_1, d.before a0 Z = true) (c' : Int32) (F : Sr Z h o r cnt few) (W : Wr h h' o (Jvm.RoadKit.slotOf Z "com/example/arenabuddy/arenabuddy/SpareRecords" "most" "I") (.int c')) : Sr Z h' o r cnt few := by
  obtain ⟨e, f1, f2, f3, m, f4⟩ := F
  exact ⟨e.wr W, f1.other W (Or.inr (slot_ne (Or.inl (hw _ (List.mem_of_getElem? (i := 12) rfl))) (Or.inl (hw _ (List.mem_of_getElem? (i := 34) rfl))) (by decide) (t := .array (.object "com/example/arenabuddy/arenabuddy/LeaseMemory")) (t' := .int) (by decide +kernel) (by decide +kernel))), f2.other W (Or.inr (slot_ne (Or.inl (hw _ (List.mem_of_getElem? (i := 30) rfl))) (Or.inl (hw _ (List.mem_of_getElem? (i := 34) rfl))) (by decide) (t := .int) (t' := .int) (by decide +kernel) (by decide +kernel))), f3.other W (Or.inr (slot_ne (Or.inl (hw _ (List.mem_of_getElem? (i := 32) rfl))) (Or.inl (hw _ (List.mem_of_getElem? (i := 34) rfl))) (by decide) (t := .int) (t' := .int) (by decide +kernel) (by decide +kernel))), _, f4.same W⟩
end OwnQ
theorem d9_0 : decode jdk_29_method_65_code 0 = .ok (.iload_n 0, 1) := by decide +kernel
theorem d9_1 : decode jdk_29_method_65_code 1 = .ok (.iload_n 1, 1) := by decide +kernel
theorem d9_2 : decode jdk_29_method_65_code 2 = .ok (.if_icmp .lt 7, 3) := by decide +kernel
theorem d9_5 : decode jdk_29_method_65_code 5 = .ok (.iload_n 0, 1) := by decide +kernel
theorem d9_6 : decode jdk_29_method_65_code 6 = .ok (.goto 4, 3) := by decide +kernel
theorem d9_9 : decode jdk_29_method_65_code 9 = .ok (.iload_n 1, 1) := by decide +kernel
theorem d9_10 : decode jdk_29_method_65_code 10 = .ok (.ireturn, 1) := by decide +kernel
theorem pn_9 : plainFor (⟨"java/lang/Math", "max", "(II)I"⟩ : MethodName) = true := by first | (exact plainFor_of_name (by first | (simp [plainName, overriddenIn, x]; done) | decide +kernel)) | decide +kernel
set_option maxRecDepth 65536 in
set_option maxHeartbeats 40000000 in
theorem rm9 (l : Launch) (Z : State) (a0 : Array Value) (hw : ∀ d ∈ tables_1, d.before a0 Z = true) (p1 p2 : Int32) (h0 : Heap) :
    OMet l Z (⟨"java/lang/Math", "max", "(II)I"⟩ : MethodName) jdk_29_method_65_code 2 (some (.int)) [] ({ frames := 0, cells := 0, slots := 0, locals := 0 } : Room) #[.int p1, .int p2] h0 (Pu (.int (own_max p1 p2)) h0) := by
  refine own_body (Ls := #[.val (.int p1), .val (.int p2)]) pn_9 (fun m => by first | (simp [entryFrame, mkF, argsToLocals, Value.category, maxLocals]; done) | rfl) ?_
  intro p e s m below meth c s₁ X0 hx hby hml hown hnm hret hlk hZ e0
  refine g_iloadN (n := 1) X0 hx (hb hby d9_0) rfl rfl ?_
  refine g_iloadN (n := 2) X0 hx (hb hby d9_1) rfl rfl ?_
  refine g_icmp (n := 9) (n' := 5) X0 hx _ (own_clt _ _) (hb hby d9_2) (by decide) (by decide) rfl (fun hc1 => ?_) (fun hc1 => ?_)
  · refine g_iloadN (n := 10) X0 hx (hb hby d9_9) rfl rfl ?_
    refine g_retI X0 hx hret hlk (hb hby d9_10) (Fe.of (by decide) (by decide)) ?_
    try rw [e0]
    exact ⟨by simp [own_max, hc1], rfl, rfl⟩
  · refine g_iloadN (n := 6) X0 hx (hb hby d9_5) rfl rfl ?_
    refine g_goto (n := 10) X0 hx (hb hby d9_6) (by decide) (by decide) ?_
    refine g_retI X0 hx hret hlk (hb hby d9_10) (Fe.of (by decide) (by decide)) ?_
    try rw [e0]
    exact ⟨by simp [own_max, hc1], rfl, rfl⟩
theorem d13_0 : decode jdk_29_method_69_code 0 = .ok (.iload_n 0, 1) := by decide +kernel
theorem d13_1 : decode jdk_29_method_69_code 1 = .ok (.iload_n 1, 1) := by decide +kernel
theorem d13_2 : decode jdk_29_method_69_code 2 = .ok (.if_icmp .gt 7, 3) := by decide +kernel
theorem d13_5 : decode jdk_29_method_69_code 5 = .ok (.iload_n 0, 1) := by decide +kernel
theorem d13_6 : decode jdk_29_method_69_code 6 = .ok (.goto 4, 3) := by decide +kernel
theorem d13_9 : decode jdk_29_method_69_code 9 = .ok (.iload_n 1, 1) := by decide +kernel
theorem d13_10 : decode jdk_29_method_69_code 10 = .ok (.ireturn, 1) := by decide +kernel
theorem pn_13 : plainFor (⟨"java/lang/Math", "min", "(II)I"⟩ : MethodName) = true := by first | (exact plainFor_of_name (by first | (simp [plainName, overriddenIn, x]; done) | decide +kernel)) | decide +kernel
set_option maxRecDepth 65536 in
set_option maxHeartbeats 40000000 in
theorem rm13 (l : Launch) (Z : State) (a0 : Array Value) (hw : ∀ d ∈ tables_1, d.before a0 Z = true) (p1 p2 : Int32) (h0 : Heap) :
    OMet l Z (⟨"java/lang/Math", "min", "(II)I"⟩ : MethodName) jdk_29_method_69_code 2 (some (.int)) [] ({ frames := 0, cells := 0, slots := 0, locals := 0 } : Room) #[.int p1, .int p2] h0 (Pu (.int (own_min p1 p2)) h0) := by
  refine own_body (Ls := #[.val (.int p1), .val (.int p2)]) pn_13 (fun m => by first | (simp [entryFrame, mkF, argsToLocals, Value.category, maxLocals]; done) | rfl) ?_
  intro p e s m below meth c s₁ X0 hx hby hml hown hnm hret hlk hZ e0
  refine g_iloadN (n := 1) X0 hx (hb hby d13_0) rfl rfl ?_
  refine g_iloadN (n := 2) X0 hx (hb hby d13_1) rfl rfl ?_
  refine g_icmp (n := 9) (n' := 5) X0 hx _ (own_cgt _ _) (hb hby d13_2) (by decide) (by decide) rfl (fun hc1 => ?_) (fun hc1 => ?_)
  · refine g_iloadN (n := 10) X0 hx (hb hby d13_9) rfl rfl ?_
    refine g_retI X0 hx hret hlk (hb hby d13_10) (Fe.of (by decide) (by decide)) ?_
    try rw [e0]
    exact ⟨by simp [own_min, hc1], rfl, rfl⟩
  · refine g_iloadN (n := 6) X0 hx (hb hby d13_5) rfl rfl ?_
    refine g_goto (n := 10) X0 hx (hb hby d13_6) (by decide) (by decide) ?_
    refine g_retI X0 hx hret hlk (hb hby d13_10) (Fe.of (by decide) (by decide)) ?_
    try rw [e0]
    exact ⟨by simp [own_min, hc1], rfl, rfl⟩
theorem d3_0 : decode prog_7_method_1_code 0 = .ok (.aload_n 0, 1) := by decide +kernel
theorem d3_1 : decode prog_7_method_1_code 1 = .ok (.invokespecial 1, 3) := by decide +kernel
theorem d3_4 : decode prog_7_method_1_code 4 = .ok (.aload_n 0, 1) := by decide +kernel
theorem d3_5 : decode prog_7_method_1_code 5 = .ok (.iconst (-1), 1) := by decide +kernel
theorem d3_6 : decode prog_7_method_1_code 6 = .ok (.putfield 9, 3) := by decide +kernel
theorem d3_9 : decode prog_7_method_1_code 9 = .ok (.aload_n 0, 1) := by decide +kernel
theorem d3_10 : decode prog_7_method_1_code 10 = .ok (.iconst (-1), 1) := by decide +kernel
theorem d3_11 : decode prog_7_method_1_code 11 = .ok (.putfield 15, 3) := by decide +kernel
theorem d3_14 : decode prog_7_method_1_code 14 = .ok (.return_, 1) := by decide +kernel
theorem pn_3 : plainFor (⟨"com/example/arenabuddy/arenabuddy/LeaseMemory", "<init>", "()V"⟩ : MethodName) = true := by first | (exact plainFor_of_name (by first | (simp [plainName, overriddenIn, x]; done) | decide +kernel)) | decide +kernel
set_option maxRecDepth 65536 in
set_option maxHeartbeats 40000000 in
theorem rm3 (l : Launch) (Z : State) (a0 : Array Value) (hw : ∀ d ∈ tables_1, d.before a0 Z = true) (a1 : Nat) (n0 : Nat) (h0 : Heap) (g1 : n0 ≤ a1) (E : Exa Z h0 a1 "com/example/arenabuddy/arenabuddy/LeaseMemory") (Fc : Fld Z h0 a1 "com/example/arenabuddy/arenabuddy/LeaseMemory" "cacheClass" "I" (.int 0)) (Fs : Fld Z h0 a1 "com/example/arenabuddy/arenabuddy/LeaseMemory" "sweep" "I" (.int 0)) (F0 : Fld Z h0 a1 "com/example/arenabuddy/arenabuddy/LeaseMemory" "cache" "Lcom/example/arenabuddy/arenabuddy/ThreadCache;" .null) (F1 : Fld Z h0 a1 "com/example/arenabuddy/arenabuddy/LeaseMemory" "chunk" "Lcom/example/arenabuddy/arenabuddy/chunk/Chunk;" .null) (F2 : Fld Z h0 a1 "com/example/arenabuddy/arenabuddy/LeaseMemory" "slotRun" "Lcom/example/arenabuddy/arenabuddy/chunk/SlotRun;" .null) (F3 : Fld Z h0 a1 "com/example/arenabuddy/arenabuddy/LeaseMemory" "view" "Ljava/nio/ByteBuffer;" .null) (F4 : Fld Z h0 a1 "com/example/arenabuddy/arenabuddy/LeaseMemory" "reused" "Lcom/example/arenabuddy/arenabuddy/Lease;" .null) :
    OMet l Z (⟨"com/example/arenabuddy/arenabuddy/LeaseMemory", "<init>", "()V"⟩ : MethodName) prog_7_method_1_code 1 none [] ({ frames := 1, cells := 0, slots := 0, locals := 12 } : Room) #[.ref a1] h0 (fun v h L => v = none ∧ Fr n0 L ∧ Keep h0 h [a1] ∧ Lm Z h a1) := by
  refine own_body (Ls := #[.val (.ref a1)]) pn_3 (fun m => by first | (simp [entryFrame, mkF, argsToLocals, Value.category, maxLocals]; done) | rfl) ?_
  intro p e s m below meth c s₁ X0 hx hby hml hown hnm hret hlk hZ e0
  refine g_aloadN (n := 1) X0 hx (hb hby d3_0) rfl rfl rfl ?_
  refine g_initO (n := 4) X0 hx hZ hown (hw _ (List.mem_of_getElem? (i := 19) rfl)) (hw _ (List.mem_of_getElem? (i := 7) rfl)) (hw _ (List.mem_of_getElem? (i := 8) rfl)) e0 (by rw [hml]; rfl) (hb hby d3_1) rfl (by decide) (W := 0) (Nat.le_of_eq rfl) (by decide) ?_
  intro T11 X11 e11
  refine g_aloadN (n := 5) X11 hx (hb hby d3_4) rfl rfl rfl ?_
  refine g_iconst (n := 6) X11 hx (-1 : Int32) (hb hby d3_5) rfl rfl ?_
  refine g_putF (n := 9) X11 hx hZ hown (hw _ (List.mem_of_getElem? (i := 20) rfl)) e11 Fc E (Or.inl (hw _ (List.mem_of_getElem? (i := 21) rfl))) (hw _ (List.mem_of_getElem? (i := 14) rfl)) (ty := .int) (by decide) rfl rfl (hb hby d3_6) rfl ?_
  intro T12 h12 X12 e12 W12
  refine g_aloadN (n := 10) X12 hx (hb hby d3_9) rfl rfl rfl ?_
  refine g_iconst (n := 11) X12 hx (-1 : Int32) (hb hby d3_10) rfl rfl ?_
  refine g_putF (n := 14) X12 hx hZ hown (hw _ (List.mem_of_getElem? (i := 22) rfl)) e12 (Fs.other W12 (Or.inr (slot_ne (Or.inl (hw _ (List.mem_of_getElem? (i := 23) rfl))) (Or.inl (hw _ (List.mem_of_getElem? (i := 21) rfl))) (by decide) (t := .int) (t' := .int) (by decide +kernel) (by decide +kernel)))) (E.wr W12) (Or.inl (hw _ (List.mem_of_getElem? (i := 23) rfl))) (hw _ (List.mem_of_getElem? (i := 14) rfl)) (ty := .int) (by decide) rfl rfl (hb hby d3_11) rfl ?_
  intro T13 h13 X13 e13 W13
  refine g_retV X13 hx hret hlk (hb hby d3_14) (Fe.of (by decide) (by decide)) ?_
  try rw [e13]
  exact ⟨rfl, Fr.snoc X13 (Fr.snoc X12 (Fr.nil n0) g1) g1, ((Keep.refl _ _).wr W12 (Or.inl (by simp))).wr W13 (Or.inl (by simp)), (E.wr W12).wr W13, (F0.other W12 (Or.inr (slot_ne (Or.inl (hw _ (List.mem_of_getElem? (i := 56) rfl))) (Or.inl (hw _ (List.mem_of_getElem? (i := 21) rfl))) (by decide) (t := .object "com/example/arenabuddy/arenabuddy/ThreadCache") (t' := .int) (by decide +kernel) (by decide +kernel)))).other W13 (Or.inr (slot_ne (Or.inl (hw _ (List.mem_of_getElem? (i := 56) rfl))) (Or.inl (hw _ (List.mem_of_getElem? (i := 23) rfl))) (by decide) (t := .object "com/example/arenabuddy/arenabuddy/ThreadCache") (t' := .int) (by decide +kernel) (by decide +kernel))), (F1.other W12 (Or.inr (slot_ne (Or.inl (hw _ (List.mem_of_getElem? (i := 58) rfl))) (Or.inl (hw _ (List.mem_of_getElem? (i := 21) rfl))) (by decide) (t := .object "com/example/arenabuddy/arenabuddy/chunk/Chunk") (t' := .int) (by decide +kernel) (by decide +kernel)))).other W13 (Or.inr (slot_ne (Or.inl (hw _ (List.mem_of_getElem? (i := 58) rfl))) (Or.inl (hw _ (List.mem_of_getElem? (i := 23) rfl))) (by decide) (t := .object "com/example/arenabuddy/arenabuddy/chunk/Chunk") (t' := .int) (by decide +kernel) (by decide +kernel))), (F2.other W12 (Or.inr (slot_ne (Or.inl (hw _ (List.mem_of_getElem? (i := 60) rfl))) (Or.inl (hw _ (List.mem_of_getElem? (i := 21) rfl))) (by decide) (t := .object "com/example/arenabuddy/arenabuddy/chunk/SlotRun") (t' := .int) (by decide +kernel) (by decide +kernel)))).other W13 (Or.inr (slot_ne (Or.inl (hw _ (List.mem_of_getElem? (i := 60) rfl))) (Or.inl (hw _ (List.mem_of_getElem? (i := 23) rfl))) (by decide) (t := .object "com/example/arenabuddy/arenabuddy/chunk/SlotRun") (t' := .int) (by decide +kernel) (by decide +kernel))), (F3.other W12 (Or.inr (slot_ne (Or.inl (hw _ (List.mem_of_getElem? (i := 62) rfl))) (Or.inl (hw _ (List.mem_of_getElem? (i := 21) rfl))) (by decide) (t := .object "java/nio/ByteBuffer") (t' := .int) (by decide +kernel) (by decide +kernel)))).other W13 (Or.inr (slot_ne (Or.inl (hw _ (List.mem_of_getElem? (i := 62) rfl))) (Or.inl (hw _ (List.mem_of_getElem? (i := 23) rfl))) (by decide) (t := .object "java/nio/ByteBuffer") (t' := .int) (by decide +kernel) (by decide +kernel))), (F4.other W12 (Or.inr (slot_ne (Or.inl (hw _ (List.mem_of_getElem? (i := 64) rfl))) (Or.inl (hw _ (List.mem_of_getElem? (i := 21) rfl))) (by decide) (t := .object "com/example/arenabuddy/arenabuddy/Lease") (t' := .int) (by decide +kernel) (by decide +kernel)))).other W13 (Or.inr (slot_ne (Or.inl (hw _ (List.mem_of_getElem? (i := 64) rfl))) (Or.inl (hw _ (List.mem_of_getElem? (i := 23) rfl))) (by decide) (t := .object "com/example/arenabuddy/arenabuddy/Lease") (t' := .int) (by decide +kernel) (by decide +kernel)))⟩
theorem d1_0 : decode prog_12_method_1_code 0 = .ok (.aload_n 0, 1) := by decide +kernel
theorem d1_1 : decode prog_12_method_1_code 1 = .ok (.invokespecial 1, 3) := by decide +kernel
theorem d1_4 : decode prog_12_method_1_code 4 = .ok (.aload_n 0, 1) := by decide +kernel
theorem d1_5 : decode prog_12_method_1_code 5 = .ok (.bipush 16, 2) := by decide +kernel
theorem d1_7 : decode prog_12_method_1_code 7 = .ok (.anewarray 9, 3) := by decide +kernel
theorem d1_10 : decode prog_12_method_1_code 10 = .ok (.putfield 11, 3) := by decide +kernel
theorem d1_13 : decode prog_12_method_1_code 13 = .ok (.return_, 1) := by decide +kernel
theorem pn_1 : plainFor (⟨"com/example/arenabuddy/arenabuddy/SpareRecords", "<init>", "()V"⟩ : MethodName) = true := by first | (exact plainFor_of_name (by first | (simp [plainName, overriddenIn, x]; done) | decide +kernel)) | decide +kernel
set_option maxRecDepth 65536 in
set_option maxHeartbeats 40000000 in
theorem rm1 (l : Launch) (Z : State) (a0 : Array Value) (hw : ∀ d ∈ tables_1, d.before a0 Z = true) (a1 : Nat) (n0 : Nat) (h0 : Heap) (g1 : n0 ≤ a1) (E : Exa Z h0 a1 "com/example/arenabuddy/arenabuddy/SpareRecords") (Fr0 : Fld Z h0 a1 "com/example/arenabuddy/arenabuddy/SpareRecords" "records" "[Lcom/example/arenabuddy/arenabuddy/LeaseMemory;" .null) (Fn : Fld Z h0 a1 "com/example/arenabuddy/arenabuddy/SpareRecords" "count" "I" (.int 0)) (Ff : Fld Z h0 a1 "com/example/arenabuddy/arenabuddy/SpareRecords" "fewest" "I" (.int 0)) (Fm : Fld Z h0 a1 "com/example/arenabuddy/arenabuddy/SpareRecords" "most" "I" (.int 0)) :
    OMet l Z (⟨"com/example/arenabuddy/arenabuddy/SpareRecords", "<init>", "()V"⟩ : MethodName) prog_12_method_1_code 1 none [] ({ frames := 1, cells := 1, slots := 16, locals := 12 } : Room) #[.ref a1] h0 (fun v h L => v = none ∧ Fr n0 L ∧ Keep h0 h [a1] ∧ ∃ r, h0.size ≤ r ∧ Sr Z h a1 r 0 0 ∧ Ro Z h r (fun _ => .null)) := by
  refine own_body (Ls := #[.val (.ref a1)]) pn_1 (fun m => by first | (simp [entryFrame, mkF, argsToLocals, Value.category, maxLocals]; done) | rfl) ?_
  intro p e s m below meth c s₁ X0 hx hby hml hown hnm hret hlk hZ e0
  refine g_aloadN (n := 1) X0 hx (hb hby d1_0) rfl rfl rfl ?_
  refine g_initO (n := 4) X0 hx hZ hown (hw _ (List.mem_of_getElem? (i := 6) rfl)) (hw _ (List.mem_of_getElem? (i := 7) rfl)) (hw _ (List.mem_of_getElem? (i := 8) rfl)) e0 (by rw [hml]; rfl) (hb hby d1_1) rfl (by decide) (W := 0) (Nat.le_of_eq rfl) (by decide) ?_
  intro T11 X11 e11
  refine g_aloadN (n := 5) X11 hx (hb hby d1_4) rfl rfl rfl ?_
  refine g_bipush (n := 7) X11 hx (16 : Int32) (hb hby d1_5) rfl rfl ?_
  refine g_anewarray (n := 10) X11 hx hZ hown (hw _ (List.mem_of_getElem? (i := 9) rfl)) (hw _ (List.mem_of_getElem? (i := 10) rfl)) e11 16 rfl 16 (by decide) (by decide) (by decide) (by decide) (hb hby d1_7) rfl ?_
  intro T12 h12 a12 X12 e12 z12 E12 A12 O12
  refine g_putF (n := 13) X12 hx hZ hown (hw _ (List.mem_of_getElem? (i := 11) rfl)) e12 (Fr0.ext E12) (E.ext E12) (Or.inl (hw _ (List.mem_of_getElem? (i := 12) rfl))) (hw _ (List.mem_of_getElem? (i := 1) rfl)) (ty := .array (.object "com/example/arenabuddy/arenabuddy/LeaseMemory")) (by decide +kernel) rfl rfl (hb hby d1_10) rfl ?_
  intro T13 h13 X13 e13 W13
  refine g_retV X13 hx hret hlk (hb hby d1_13) (Fe.of (by decide) (by decide)) ?_
  try rw [e13]
  have hne : a12 ≠ a1 := by have := own_elt E; omega
  exact ⟨rfl, Fr.snoc X13 (Fr.nil n0) g1, ((Keep.refl _ _).ext E12).wr W13 (Or.inl (by simp)), a12, by omega, ⟨(E.ext E12).wr W13, (Fr0.ext E12).same W13, (Fn.ext E12).other W13 (Or.inr (slot_ne (Or.inl (hw _ (List.mem_of_getElem? (i := 30) rfl))) (Or.inl (hw _ (List.mem_of_getElem? (i := 12) rfl))) (by decide) (t := .int) (t' := .array (.object "com/example/arenabuddy/arenabuddy/LeaseMemory")) (by decide +kernel) (by decide +kernel))), (Ff.ext E12).other W13 (Or.inr (slot_ne (Or.inl (hw _ (List.mem_of_getElem? (i := 32) rfl))) (Or.inl (hw _ (List.mem_of_getElem? (i := 12) rfl))) (by decide) (t := .int) (t' := .array (.object "com/example/arenabuddy/arenabuddy/LeaseMemory")) (by decide +kernel) (by decide +kernel))), _, (Fm.ext E12).other W13 (Or.inr (slot_ne (Or.inl (hw _ (List.mem_of_getElem? (i := 34) rfl))) (Or.inl (hw _ (List.mem_of_getElem? (i := 12) rfl))) (by decide) (t := .int) (t' := .array (.object "com/example/arenabuddy/arenabuddy/LeaseMemory")) (by decide +kernel) (by decide +kernel)))⟩, ⟨A12.other W13 hne, own_ovr O12 (Keep.of_wr W13), fun _ _ => Or.inl rfl⟩⟩
theorem d4_0 : decode prog_12_method_5_code 0 = .ok (.aload_n 0, 1) := by decide +kernel
theorem d4_1 : decode prog_12_method_5_code 1 = .ok (.bipush 16, 2) := by decide +kernel
theorem d4_3 : decode prog_12_method_5_code 3 = .ok (.anewarray 9, 3) := by decide +kernel
theorem d4_6 : decode prog_12_method_5_code 6 = .ok (.putfield 11, 3) := by decide +kernel
theorem d4_9 : decode prog_12_method_5_code 9 = .ok (.aload_n 0, 1) := by decide +kernel
theorem d4_10 : decode prog_12_method_5_code 10 = .ok (.iconst 0, 1) := by decide +kernel
theorem d4_11 : decode prog_12_method_5_code 11 = .ok (.putfield 15, 3) := by decide +kernel
theorem d4_14 : decode prog_12_method_5_code 14 = .ok (.aload_n 0, 1) := by decide +kernel
theorem d4_15 : decode prog_12_method_5_code 15 = .ok (.iconst 0, 1) := by decide +kernel
theorem d4_16 : decode prog_12_method_5_code 16 = .ok (.putfield 20, 3) := by decide +kernel
theorem d4_19 : decode prog_12_method_5_code 19 = .ok (.aload_n 0, 1) := by decide +kernel
theorem d4_20 : decode prog_12_method_5_code 20 = .ok (.iconst 0, 1) := by decide +kernel
theorem d4_21 : decode prog_12_method_5_code 21 = .ok (.putfield 39, 3) := by decide +kernel
theorem d4_24 : decode prog_12_method_5_code 24 = .ok (.return_, 1) := by decide +kernel
theorem pn_4 : plainFor (⟨"com/example/arenabuddy/arenabuddy/SpareRecords", "dropAll", "()V"⟩ : MethodName) = true := by first | (exact plainFor_of_name (by first | (simp [plainName, overriddenIn, x]; done) | decide +kernel)) | decide +kernel
set_option maxRecDepth 65536 in
set_option maxHeartbeats 40000000 in
theorem rm4 (l : Launch) (Z : State) (a0 : Array Value) (hw : ∀ d ∈ tables_1, d.before a0 Z = true) (a1 r : Nat) (c few : Int32) (n0 : Nat) (h0 : Heap) (g1 : n0 ≤ a1) (S : Sr Z h0 a1 r c few) :
    OMet l Z (⟨"com/example/arenabuddy/arenabuddy/SpareRecords", "dropAll", "()V"⟩ : MethodName) prog_12_method_5_code 1 none [] ({ frames := 0, cells := 1, slots := 16, locals := 0 } : Room) #[.ref a1] h0 (fun v h L => v = none ∧ Fr n0 L ∧ Keep h0 h [a1] ∧ ∃ r, h0.size ≤ r ∧ Sr Z h a1 r 0 0 ∧ Ro Z h r (fun _ => .null)) := by
  refine own_body (Ls := #[.val (.ref a1)]) pn_4 (fun m => by first | (simp [entryFrame, mkF, argsToLocals, Value.category, maxLocals]; done) | rfl) ?_
  intro p e s m below meth c s₁ X0 hx hby hml hown hnm hret hlk hZ e0
  refine g_aloadN (n := 1) X0 hx (hb hby d4_0) rfl rfl rfl ?_
  refine g_bipush (n := 3) X0 hx (16 : Int32) (hb hby d4_1) rfl rfl ?_
  refine g_anewarray (n := 6) X0 hx hZ hown (hw _ (List.mem_of_getElem? (i := 9) rfl)) (hw _ (List.mem_of_getElem? (i := 10) rfl)) e0 16 rfl 16 (by decide) (by decide) (by decide) (by decide) (hb hby d4_3) rfl ?_
  intro T11 h11 a11 X11 e11 z11 E11 A11 O11
  have S0 := S.ext E11
  have hne : a11 ≠ a1 := by have := own_elt S.1; omega
  refine g_putF (n := 9) X11 hx hZ hown (hw _ (List.mem_of_getElem? (i := 11) rfl)) e11 S0.2.1 S0.1 (Or.inl (hw _ (List.mem_of_getElem? (i := 12) rfl))) (hw _ (List.mem_of_getElem? (i := 1) rfl)) (ty := .array (.object "com/example/arenabuddy/arenabuddy/LeaseMemory")) (by decide +kernel) rfl rfl (hb hby d4_6) rfl ?_
  intro T12 h12 X12 e12 W12
  have S12 := S0.wrecords hw a11 W12
  refine g_aloadN (n := 10) X12 hx (hb hby d4_9) rfl rfl rfl ?_
  refine g_iconst (n := 11) X12 hx (0 : Int32) (hb hby d4_10) rfl rfl ?_
  refine g_putF (n := 14) X12 hx hZ hown (hw _ (List.mem_of_getElem? (i := 29) rfl)) e12 S12.2.2.1 S12.1 (Or.inl (hw _ (List.mem_of_getElem? (i := 30) rfl))) (hw _ (List.mem_of_getElem? (i := 1) rfl)) (ty := .int) (by decide +kernel) rfl rfl (hb hby d4_11) rfl ?_
  intro T13 h13 X13 e13 W13
  have S13 := S12.wcount hw 0 W13
  refine g_aloadN (n := 15) X13 hx (hb hby d4_14) rfl rfl rfl ?_
  refine g_iconst (n := 16) X13 hx (0 : Int32) (hb hby d4_15) rfl rfl ?_
  refine g_putF (n := 19) X13 hx hZ hown (hw _ (List.mem_of_getElem? (i := 31) rfl)) e13 S13.2.2.2.1 S13.1 (Or.inl (hw _ (List.mem_of_getElem? (i := 32) rfl))) (hw _ (List.mem_of_getElem? (i := 1) rfl)) (ty := .int) (by decide +kernel) rfl rfl (hb hby d4_16) rfl ?_
  intro T14 h14 X14 e14 W14
  have S14 := S13.wfewest hw 0 W14
  refine g_aloadN (n := 20) X14 hx (hb hby d4_19) rfl rfl rfl ?_
  refine g_iconst (n := 21) X14 hx (0 : Int32) (hb hby d4_20) rfl rfl ?_
  refine g_putF (n := 24) X14 hx hZ hown (hw _ (List.mem_of_getElem? (i := 33) rfl)) e14 S14.2.2.2.2.choose_spec S14.1 (Or.inl (hw _ (List.mem_of_getElem? (i := 34) rfl))) (hw _ (List.mem_of_getElem? (i := 1) rfl)) (ty := .int) (by decide +kernel) rfl rfl (hb hby d4_21) rfl ?_
  intro T15 h15 X15 e15 W15
  have S15 := S14.wmost hw 0 W15
  refine g_retV X15 hx hret hlk (hb hby d4_24) (Fe.of (by decide) (by decide)) ?_
  try rw [e15]
  exact ⟨rfl, (Fr.snoc X15 (Fr.snoc X14 (Fr.snoc X13 (Fr.snoc X12 (Fr.nil n0) g1) g1) g1) g1), ((((((Keep.refl _ _).ext E11).wr W12 (Or.inl (by simp))).wr W13 (Or.inl (by simp))).wr W14 (Or.inl (by simp))).wr W15 (Or.inl (by simp))), a11, by omega, S15, ((((A11.other W12 hne).other W13 hne).other W14 hne).other W15 hne), (own_ovr (own_ovr (own_ovr (own_ovr O11 (Keep.of_wr W12)) (Keep.of_wr W13)) (Keep.of_wr W14)) (Keep.of_wr W15)), fun _ _ => Or.inl rfl⟩
theorem d8_0 : decode prog_7_method_8_code 0 = .ok (.aload_n 0, 1) := by decide +kernel
theorem d8_1 : decode prog_7_method_8_code 1 = .ok (.aconst_null, 1) := by decide +kernel
theorem d8_2 : decode prog_7_method_8_code 2 = .ok (.putfield 98, 3) := by decide +kernel
theorem d8_5 : decode prog_7_method_8_code 5 = .ok (.aload_n 0, 1) := by decide +kernel
theorem d8_6 : decode prog_7_method_8_code 6 = .ok (.aconst_null, 1) := by decide +kernel
theorem d8_7 : decode prog_7_method_8_code 7 = .ok (.putfield 49, 3) := by decide +kernel
theorem d8_10 : decode prog_7_method_8_code 10 = .ok (.aload_n 0, 1) := by decide +kernel
theorem d8_11 : decode prog_7_method_8_code 11 = .ok (.aconst_null, 1) := by decide +kernel
theorem d8_12 : decode prog_7_method_8_code 12 = .ok (.putfield 77, 3) := by decide +kernel
theorem d8_15 : decode prog_7_method_8_code 15 = .ok (.aload_n 0, 1) := by decide +kernel
theorem d8_16 : decode prog_7_method_8_code 16 = .ok (.aconst_null, 1) := by decide +kernel
theorem d8_17 : decode prog_7_method_8_code 17 = .ok (.putfield 45, 3) := by decide +kernel
theorem d8_20 : decode prog_7_method_8_code 20 = .ok (.aload_n 0, 1) := by decide +kernel
theorem d8_21 : decode prog_7_method_8_code 21 = .ok (.getfield 32, 3) := by decide +kernel
theorem d8_24 : decode prog_7_method_8_code 24 = .ok (.ifnull 10, 3) := by decide +kernel
theorem d8_27 : decode prog_7_method_8_code 27 = .ok (.aload_n 0, 1) := by decide +kernel
theorem d8_28 : decode prog_7_method_8_code 28 = .ok (.getfield 32, 3) := by decide +kernel
theorem d8_31 : decode prog_7_method_8_code 31 = .ok (.invokevirtual 102, 3) := by decide +kernel
theorem d8_34 : decode prog_7_method_8_code 34 = .ok (.return_, 1) := by decide +kernel
theorem pn_8 : plainFor (⟨"com/example/arenabuddy/arenabuddy/LeaseMemory", "clear", "()V"⟩ : MethodName) = true := by first | (exact plainFor_of_name (by first | (simp [plainName, overriddenIn, x]; done) | decide +kernel)) | decide +kernel
set_option maxRecDepth 65536 in
set_option maxHeartbeats 40000000 in
theorem rm8 (l : Launch) (Z : State) (a0 : Array Value) (hw : ∀ d ∈ tables_1, d.before a0 Z = true) (a1 : Nat) (n0 : Nat) (h0 : Heap) (g1 : n0 ≤ a1) (F : Lm Z h0 a1) :
    OMet l Z (⟨"com/example/arenabuddy/arenabuddy/LeaseMemory", "clear", "()V"⟩ : MethodName) prog_7_method_8_code 1 none [] ({ frames := 0, cells := 0, slots := 0, locals := 0 } : Room) #[.ref a1] h0 (fun v h L => v = none ∧ Fr n0 L ∧ Keep h0 h [a1]) := by
  refine own_body (Ls := #[.val (.ref a1)]) pn_8 (fun m => by first | (simp [entryFrame, mkF, argsToLocals, Value.category, maxLocals]; done) | rfl) ?_
  intro p e s m below meth c s₁ X0 hx hby hml hown hnm hret hlk hZ e0
  refine g_aloadN (n := 1) X0 hx (hb hby d8_0) rfl rfl rfl ?_
  refine g_aconstNull (n := 2) X0 hx (hb hby d8_1) rfl ?_
  refine g_putF (n := 5) X0 hx hZ hown (hw _ (List.mem_of_getElem? (i := 55) rfl)) e0 F.2.1 F.1 (Or.inl (hw _ (List.mem_of_getElem? (i := 56) rfl))) (hw _ (List.mem_of_getElem? (i := 14) rfl)) (ty := .object "com/example/arenabuddy/arenabuddy/ThreadCache") (by decide +kernel) rfl rfl (hb hby d8_2) rfl ?_
  intro T11 h11 X11 e11 W11
  refine g_aloadN (n := 6) X11 hx (hb hby d8_5) rfl rfl rfl ?_
  refine g_aconstNull (n := 7) X11 hx (hb hby d8_6) rfl ?_
  refine g_putF (n := 10) X11 hx hZ hown (hw _ (List.mem_of_getElem? (i := 57) rfl)) e11 (F.2.2.1.other W11 (Or.inr (slot_ne (Or.inl (hw _ (List.mem_of_getElem? (i := 58) rfl))) (Or.inl (hw _ (List.mem_of_getElem? (i := 56) rfl))) (by decide) (t := .object "com/example/arenabuddy/arenabuddy/chunk/Chunk") (t' := .object "com/example/arenabuddy/arenabuddy/ThreadCache") (by decide +kernel) (by decide +kernel)))) (F.1.wr W11) (Or.inl (hw _ (List.mem_of_getElem? (i := 58) rfl))) (hw _ (List.mem_of_getElem? (i := 14) rfl)) (ty := .object "com/example/arenabuddy/arenabuddy/chunk/Chunk") (by decide +kernel) rfl rfl (hb hby d8_7) rfl ?_
  intro T12 h12 X12 e12 W12
  refine g_aloadN (n := 11) X12 hx (hb hby d8_10) rfl rfl rfl ?_
  refine g_aconstNull (n := 12) X12 hx (hb hby d8_11) rfl ?_
  refine g_putF (n := 15) X12 hx hZ hown (hw _ (List.mem_of_getElem? (i := 59) rfl)) e12 ((F.2.2.2.1.other W11 (Or.inr (slot_ne (Or.inl (hw _ (List.mem_of_getElem? (i := 60) rfl))) (Or.inl (hw _ (List.mem_of_getElem? (i := 56) rfl))) (by decide) (t := .object "com/example/arenabuddy/arenabuddy/chunk/SlotRun") (t' := .object "com/example/arenabuddy/arenabuddy/ThreadCache") (by decide +kernel) (by decide +kernel)))).other W12 (Or.inr (slot_ne (Or.inl (hw _ (List.mem_of_getElem? (i := 60) rfl))) (Or.inl (hw _ (List.mem_of_getElem? (i := 58) rfl))) (by decide) (t := .object "com/example/arenabuddy/arenabuddy/chunk/SlotRun") (t' := .object "com/example/arenabuddy/arenabuddy/chunk/Chunk") (by decide +kernel) (by decide +kernel)))) ((F.1.wr W11).wr W12) (Or.inl (hw _ (List.mem_of_getElem? (i := 60) rfl))) (hw _ (List.mem_of_getElem? (i := 14) rfl)) (ty := .object "com/example/arenabuddy/arenabuddy/chunk/SlotRun") (by decide +kernel) rfl rfl (hb hby d8_12) rfl ?_
  intro T13 h13 X13 e13 W13
  refine g_aloadN (n := 16) X13 hx (hb hby d8_15) rfl rfl rfl ?_
  refine g_aconstNull (n := 17) X13 hx (hb hby d8_16) rfl ?_
  refine g_putF (n := 20) X13 hx hZ hown (hw _ (List.mem_of_getElem? (i := 61) rfl)) e13 (((F.2.2.2.2.1.other W11 (Or.inr (slot_ne (Or.inl (hw _ (List.mem_of_getElem? (i := 62) rfl))) (Or.inl (hw _ (List.mem_of_getElem? (i := 56) rfl))) (by decide) (t := .object "java/nio/ByteBuffer") (t' := .object "com/example/arenabuddy/arenabuddy/ThreadCache") (by decide +kernel) (by decide +kernel)))).other W12 (Or.inr (slot_ne (Or.inl (hw _ (List.mem_of_getElem? (i := 62) rfl))) (Or.inl (hw _ (List.mem_of_getElem? (i := 58) rfl))) (by decide) (t := .object "java/nio/ByteBuffer") (t' := .object "com/example/arenabuddy/arenabuddy/chunk/Chunk") (by decide +kernel) (by decide +kernel)))).other W13 (Or.inr (slot_ne (Or.inl (hw _ (List.mem_of_getElem? (i := 62) rfl))) (Or.inl (hw _ (List.mem_of_getElem? (i := 60) rfl))) (by decide) (t := .object "java/nio/ByteBuffer") (t' := .object "com/example/arenabuddy/arenabuddy/chunk/SlotRun") (by decide +kernel) (by decide +kernel)))) (((F.1.wr W11).wr W12).wr W13) (Or.inl (hw _ (List.mem_of_getElem? (i := 62) rfl))) (hw _ (List.mem_of_getElem? (i := 14) rfl)) (ty := .object "java/nio/ByteBuffer") (by decide +kernel) rfl rfl (hb hby d8_17) rfl ?_
  intro T14 h14 X14 e14 W14
  refine g_aloadN (n := 21) X14 hx (hb hby d8_20) rfl rfl rfl ?_
  refine g_getF (n := 24) X14 hx hZ hown (hw _ (List.mem_of_getElem? (i := 63) rfl)) e14 ((((F.2.2.2.2.2.other W11 (Or.inr (slot_ne (Or.inl (hw _ (List.mem_of_getElem? (i := 64) rfl))) (Or.inl (hw _ (List.mem_of_getElem? (i := 56) rfl))) (by decide) (t := .object "com/example/arenabuddy/arenabuddy/Lease") (t' := .object "com/example/arenabuddy/arenabuddy/ThreadCache") (by decide +kernel) (by decide +kernel)))).other W12 (Or.inr (slot_ne (Or.inl (hw _ (List.mem_of_getElem? (i := 64) rfl))) (Or.inl (hw _ (List.mem_of_getElem? (i := 58) rfl))) (by decide) (t := .object "com/example/arenabuddy/arenabuddy/Lease") (t' := .object "com/example/arenabuddy/arenabuddy/chunk/Chunk") (by decide +kernel) (by decide +kernel)))).other W13 (Or.inr (slot_ne (Or.inl (hw _ (List.mem_of_getElem? (i := 64) rfl))) (Or.inl (hw _ (List.mem_of_getElem? (i := 60) rfl))) (by decide) (t := .object "com/example/arenabuddy/arenabuddy/Lease") (t' := .object "com/example/arenabuddy/arenabuddy/chunk/SlotRun") (by decide +kernel) (by decide +kernel)))).other W14 (Or.inr (slot_ne (Or.inl (hw _ (List.mem_of_getElem? (i := 64) rfl))) (Or.inl (hw _ (List.mem_of_getElem? (i := 62) rfl))) (by decide) (t := .object "com/example/arenabuddy/arenabuddy/Lease") (t' := .object "java/nio/ByteBuffer") (by decide +kernel) (by decide +kernel)))) (hb hby d8_21) rfl ?_
  intro T15 X15 e15
  refine g_ifnullYes (n := 34) X15 hx (hb hby d8_24) (by decide) (by decide) ?_
  refine g_retV X15 hx hret hlk (hb hby d8_34) (Fe.of (by decide) (by decide)) ?_
  try rw [e15]
  exact ⟨rfl, (Fr.snoc X14 (Fr.snoc X13 (Fr.snoc X12 (Fr.snoc X11 (Fr.nil n0) g1) g1) g1) g1), (((((Keep.refl _ _).wr W11 (Or.inl (by simp))).wr W12 (Or.inl (by simp))).wr W13 (Or.inl (by simp))).wr W14 (Or.inl (by simp)))⟩
theorem d7_0 : decode prog_12_method_3_code 0 = .ok (.aload_n 1, 1) := by decide +kernel
theorem d7_1 : decode prog_12_method_3_code 1 = .ok (.invokevirtual 29, 3) := by decide +kernel
theorem d7_4 : decode prog_12_method_3_code 4 = .ok (.aload_n 0, 1) := by decide +kernel
theorem d7_5 : decode prog_12_method_3_code 5 = .ok (.getfield 15, 3) := by decide +kernel
theorem d7_8 : decode prog_12_method_3_code 8 = .ok (.aload_n 0, 1) := by decide +kernel
theorem d7_9 : decode prog_12_method_3_code 9 = .ok (.getfield 11, 3) := by decide +kernel
theorem d7_12 : decode prog_12_method_3_code 12 = .ok (.arraylength, 1) := by decide +kernel
theorem d7_13 : decode prog_12_method_3_code 13 = .ok (.if_icmp .ne 23, 3) := by decide +kernel
theorem d7_16 : decode prog_12_method_3_code 16 = .ok (.aload_n 0, 1) := by decide +kernel
theorem d7_17 : decode prog_12_method_3_code 17 = .ok (.aload_n 0, 1) := by decide +kernel
theorem d7_18 : decode prog_12_method_3_code 18 = .ok (.getfield 11, 3) := by decide +kernel
theorem d7_21 : decode prog_12_method_3_code 21 = .ok (.iconst 2, 1) := by decide +kernel
theorem d7_22 : decode prog_12_method_3_code 22 = .ok (.aload_n 0, 1) := by decide +kernel
theorem d7_23 : decode prog_12_method_3_code 23 = .ok (.getfield 15, 3) := by decide +kernel
theorem d7_26 : decode prog_12_method_3_code 26 = .ok (.imul, 1) := by decide +kernel
theorem d7_27 : decode prog_12_method_3_code 27 = .ok (.invokestatic 32, 3) := by decide +kernel
theorem d7_30 : decode prog_12_method_3_code 30 = .ok (.checkcast 38, 3) := by decide +kernel
theorem d7_33 : decode prog_12_method_3_code 33 = .ok (.putfield 11, 3) := by decide +kernel
theorem d7_36 : decode prog_12_method_3_code 36 = .ok (.aload_n 0, 1) := by decide +kernel
theorem d7_37 : decode prog_12_method_3_code 37 = .ok (.getfield 11, 3) := by decide +kernel
theorem d7_40 : decode prog_12_method_3_code 40 = .ok (.aload_n 0, 1) := by decide +kernel
theorem d7_41 : decode prog_12_method_3_code 41 = .ok (.dup, 1) := by decide +kernel
theorem d7_42 : decode prog_12_method_3_code 42 = .ok (.getfield 15, 3) := by decide +kernel
theorem d7_45 : decode prog_12_method_3_code 45 = .ok (.dup_x1, 1) := by decide +kernel
theorem d7_46 : decode prog_12_method_3_code 46 = .ok (.iconst 1, 1) := by decide +kernel
theorem d7_47 : decode prog_12_method_3_code 47 = .ok (.iadd, 1) := by decide +kernel
theorem d7_48 : decode prog_12_method_3_code 48 = .ok (.putfield 15, 3) := by decide +kernel
theorem d7_51 : decode prog_12_method_3_code 51 = .ok (.aload_n 1, 1) := by decide +kernel
theorem d7_52 : decode prog_12_method_3_code 52 = .ok (.aastore, 1) := by decide +kernel
theorem d7_53 : decode prog_12_method_3_code 53 = .ok (.aload_n 0, 1) := by decide +kernel
theorem d7_54 : decode prog_12_method_3_code 54 = .ok (.aload_n 0, 1) := by decide +kernel
theorem d7_55 : decode prog_12_method_3_code 55 = .ok (.getfield 39, 3) := by decide +kernel
theorem d7_58 : decode prog_12_method_3_code 58 = .ok (.aload_n 0, 1) := by decide +kernel
theorem d7_59 : decode prog_12_method_3_code 59 = .ok (.getfield 15, 3) := by decide +kernel
theorem d7_62 : decode prog_12_method_3_code 62 = .ok (.invokestatic 42, 3) := by decide +kernel
theorem d7_65 : decode prog_12_method_3_code 65 = .ok (.putfield 39, 3) := by decide +kernel
theorem d7_68 : decode prog_12_method_3_code 68 = .ok (.return_, 1) := by decide +kernel
theorem pn_7 : plainFor (⟨"com/example/arenabuddy/arenabuddy/SpareRecords", "keep", "(Lcom/example/arenabuddy/arenabuddy/LeaseMemory;)V"⟩ : MethodName) = true := by first | (exact plainFor_of_name (by first | (simp [plainName, overriddenIn, x]; done) | decide +kernel)) | decide +kernel
set_option maxRecDepth 65536 in
set_option maxHeartbeats 40000000 in
theorem rm7 (l : Launch) (Z : State) (a0 : Array Value) (hw : ∀ d ∈ tables_1, d.before a0 Z = true) (a1 a2 r : Nat) (cn : Nat) (few : Int32) (f : Nat → Value) (n0 : Nat) (h0 : Heap) (g1 : n0 ≤ a1) (g2 : n0 ≤ a2) (gr : n0 ≤ r) (h12 : a1 ≠ a2) (hr1 : r ≠ a1) (hr2 : r ≠ a2) (hcn : cn < 16) (S : Sr Z h0 a1 r (Int32.ofNat cn) few) (R : Ro Z h0 r f) (F : Lm Z h0 a2) :
    OMet l Z (⟨"com/example/arenabuddy/arenabuddy/SpareRecords", "keep", "(Lcom/example/arenabuddy/arenabuddy/LeaseMemory;)V"⟩ : MethodName) prog_12_method_3_code 2 none [] ({ frames := 1, cells := 0, slots := 0, locals := 14 } : Room) #[.ref a1, .ref a2] h0 (fun v h L => v = none ∧ Fr n0 L ∧ Keep h0 h [a2, a1, r] ∧ Sr Z h a1 r (Int32.ofNat (cn + 1)) few ∧ Ro Z h r (fun i => if i = cn then .ref a2 else f i)) := by
  refine own_body (Ls := #[.val (.ref a1), .val (.ref a2)]) pn_7 (fun m => by first | (simp [entryFrame, mkF, argsToLocals, Value.category, maxLocals]; done) | rfl) ?_
  intro p e s m below meth c s₁ X0 hx hby hml hown hnm hret hlk hZ e0
  refine g_aloadN (n := 1) X0 hx (hb hby d7_0) rfl rfl rfl ?_
  refine g_callV (n := 4) (st := []) X0 hx hZ hown e0 (hw _ (List.mem_of_getElem? (i := 50) rfl)) (hw _ (List.mem_of_getElem? (i := 51) rfl)) (notFace_of_selects (args := #[]) (mvT hZ (hw _ (List.mem_of_getElem? (i := 53) rfl)))) (hw _ (List.mem_of_getElem? (i := 53) rfl)) (hw _ (List.mem_of_getElem? (i := 52) rfl)) (hw _ (List.mem_of_getElem? (i := 15) rfl)) (hw _ (List.mem_of_getElem? (i := 54) rfl)) (by decide) a2 F.1 [] (rm8 l Z a0 hw a2 n0 h0 g2 F) pd_0 rfl (hb hby d7_1) rfl (by rw [hml]; rfl) (by decide) 0 (Nat.le_of_eq rfl) (by decide) (by decide) (by decide) ?_
  intro T11 h11 v11 L11 X11 e11 Q11
  obtain ⟨rfl, N11, K11⟩ := Q11
  have S0 := S.keep K11 (ninS h12 nin0)
  have R0 := R.keep K11 (ninS hr2 nin0)
  have E0 := F.1.keep K11
  refine g_aloadN (n := 5) X11 hx (hb hby d7_4) rfl rfl rfl ?_
  refine g_getF (n := 8) X11 hx hZ hown (hw _ (List.mem_of_getElem? (i := 29) rfl)) e11 S0.2.2.1 (hb hby d7_5) rfl ?_
  intro T12 X12 e12
  refine g_aloadN (n := 9) X12 hx (hb hby d7_8) rfl rfl rfl ?_
  refine g_getF (n := 12) X12 hx hZ hown (hw _ (List.mem_of_getElem? (i := 11) rfl)) e12 S0.2.1 (hb hby d7_9) rfl ?_
  intro T13 X13 e13
  refine g_len (n := 13) X13 hx hZ e13 R0.1 (hb hby d7_12) rfl ?_
  refine g_icmp (n := 36) (n' := 16) X13 hx _ (own_cne _ _) (hb hby d7_13) (by decide) (by decide) rfl (fun _ => ?_) (fun hc => absurd (fun q => absurd ((own_le (by omega) (by omega)).mp (Int32.le_of_eq q.symm)) (by omega)) hc)
  refine g_aloadN (n := 37) X13 hx (hb hby d7_36) rfl rfl rfl ?_
  refine g_getF (n := 40) X13 hx hZ hown (hw _ (List.mem_of_getElem? (i := 11) rfl)) e13 S0.2.1 (hb hby d7_37) rfl ?_
  intro T14 X14 e14
  refine g_aloadN (n := 41) X14 hx (hb hby d7_40) rfl rfl rfl ?_
  refine g_dup (n := 42) X14 hx (hb hby d7_41) rfl rfl ?_
  refine g_getF (n := 45) X14 hx hZ hown (hw _ (List.mem_of_getElem? (i := 29) rfl)) e14 S0.2.2.1 (hb hby d7_42) rfl ?_
  intro T15 X15 e15
  refine g_dupX1 (n := 46) X15 hx (hb hby d7_45) rfl rfl rfl ?_
  refine g_iconst (n := 47) X15 hx (1 : Int32) (hb hby d7_46) rfl rfl ?_
  refine g_iadd (n := 48) X15 hx (hb hby d7_47) rfl ?_
  refine g_putF (n := 51) X15 hx hZ hown (hw _ (List.mem_of_getElem? (i := 29) rfl)) e15 S0.2.2.1 S0.1 (Or.inl (hw _ (List.mem_of_getElem? (i := 30) rfl))) (hw _ (List.mem_of_getElem? (i := 1) rfl)) (ty := .int) (by decide) rfl rfl (hb hby d7_48) rfl ?_
  intro T16 h16 X16 e16 W16
  have S1 := S0.wcount hw _ W16
  have R1 := R0.other W16 hr1
  have E1 := E0.wr W16
  refine g_aloadN (n := 52) X16 hx (hb hby d7_51) rfl rfl rfl ?_
  refine g_aastore (n := 53) X16 hx hZ e16 R1.1 rfl cn rfl (by omega) (R1.sto (Or.inr ⟨_, rfl, E1⟩)) (hb hby d7_52) rfl ?_
  intro T17 h17 X17 e17 W17 A17
  have S2 := S1.other W17 (Ne.symm hr1)
  have R2 := R1.set W17 (by omega) (Or.inr ⟨_, rfl, E1⟩)
  refine g_aloadN (n := 54) X17 hx (hb hby d7_53) rfl rfl rfl ?_
  refine g_aloadN (n := 55) X17 hx (hb hby d7_54) rfl rfl rfl ?_
  obtain ⟨mst, Fm⟩ := S2.2.2.2.2
  refine g_getF (n := 58) X17 hx hZ hown (hw _ (List.mem_of_getElem? (i := 33) rfl)) e17 Fm (hb hby d7_55) rfl ?_
  intro T18 X18 e18
  refine g_aloadN (n := 59) X18 hx (hb hby d7_58) rfl rfl rfl ?_
  refine g_getF (n := 62) X18 hx hZ hown (hw _ (List.mem_of_getElem? (i := 29) rfl)) e18 S2.2.2.1 (hb hby d7_59) rfl ?_
  intro T19 X19 e19
  refine g_callSP (n := 65) (st := [(.ref a1)]) X19 hx hZ hown e19 (hw _ (List.mem_of_getElem? (i := 66) rfl)) (hw _ (List.mem_of_getElem? (i := 67) rfl)) (hw _ (List.mem_of_getElem? (i := 68) rfl)) (hw _ (List.mem_of_getElem? (i := 69) rfl)) (by decide) [.int mst, .int (Int32.ofNat cn + (1 : Int32))] (rm9 l Z a0 hw mst (Int32.ofNat cn + (1 : Int32)) h17) pd_1 rfl (hb hby d7_62) rfl (by rw [hml]; rfl) (by decide) 1 (Nat.le_of_eq rfl) (by decide) (by decide) (by decide) ?_
  intro T20 X20 e20
  refine g_putF (n := 68) X20 hx hZ hown (hw _ (List.mem_of_getElem? (i := 33) rfl)) e20 Fm S2.1 (Or.inl (hw _ (List.mem_of_getElem? (i := 34) rfl))) (hw _ (List.mem_of_getElem? (i := 1) rfl)) (ty := .int) (by decide) rfl rfl (hb hby d7_65) rfl ?_
  intro T21 h21 X21 e21 W21
  have S3 := S2.wmost hw _ W21
  have R3 := R2.other W21 hr1
  refine g_retV X21 hx hret hlk (hb hby d7_68) (Fe.of (by decide) (by decide)) ?_
  try rw [e21]
  rw [own_add1] at S3
  exact ⟨rfl, Fr.snoc X21 (Fr.snoc X17 (Fr.snoc X16 (Fr.app (Fr.nil n0) N11) g1) gr) g1, (((Keep.trans (ws := [a2, a1, r]) (Keep.refl _ _) K11 (by intro x hx; left; simp at hx; simp [hx])).wr W16 (Or.inl (by simp))).wr W17 (Or.inl (by simp))).wr W21 (Or.inl (by simp)), S3, R3⟩
theorem d12_0 : decode jdk_65_method_30_code 0 = .ok (.iload_n 1, 1) := by decide +kernel
theorem d12_1 : decode jdk_65_method_30_code 1 = .ok (.iload_n 2, 1) := by decide +kernel
theorem d12_2 : decode jdk_65_method_30_code 2 = .ok (.if_icmp .le 44, 3) := by decide +kernel
theorem d12_5 : decode jdk_65_method_30_code 5 = .ok (.new 43, 3) := by decide +kernel
theorem d12_8 : decode jdk_65_method_30_code 8 = .ok (.dup, 1) := by decide +kernel
theorem d12_9 : decode jdk_65_method_30_code 9 = .ok (.new 45, 3) := by decide +kernel
theorem d12_12 : decode jdk_65_method_30_code 12 = .ok (.dup, 1) := by decide +kernel
theorem d12_13 : decode jdk_65_method_30_code 13 = .ok (.invokespecial 47, 3) := by decide +kernel
theorem d12_16 : decode jdk_65_method_30_code 16 = .ok (.ldc 48, 2) := by decide +kernel
theorem d12_18 : decode jdk_65_method_30_code 18 = .ok (.invokevirtual 50, 3) := by decide +kernel
theorem d12_21 : decode jdk_65_method_30_code 21 = .ok (.iload_n 1, 1) := by decide +kernel
theorem d12_22 : decode jdk_65_method_30_code 22 = .ok (.invokevirtual 54, 3) := by decide +kernel
theorem d12_25 : decode jdk_65_method_30_code 25 = .ok (.ldc 57, 2) := by decide +kernel
theorem d12_27 : decode jdk_65_method_30_code 27 = .ok (.invokevirtual 50, 3) := by decide +kernel
theorem d12_30 : decode jdk_65_method_30_code 30 = .ok (.iload_n 2, 1) := by decide +kernel
theorem d12_31 : decode jdk_65_method_30_code 31 = .ok (.invokevirtual 54, 3) := by decide +kernel
theorem d12_34 : decode jdk_65_method_30_code 34 = .ok (.ldc 59, 2) := by decide +kernel
theorem d12_36 : decode jdk_65_method_30_code 36 = .ok (.invokevirtual 50, 3) := by decide +kernel
theorem d12_39 : decode jdk_65_method_30_code 39 = .ok (.invokevirtual 61, 3) := by decide +kernel
theorem d12_42 : decode jdk_65_method_30_code 42 = .ok (.invokespecial 65, 3) := by decide +kernel
theorem d12_45 : decode jdk_65_method_30_code 45 = .ok (.athrow, 1) := by decide +kernel
theorem d12_46 : decode jdk_65_method_30_code 46 = .ok (.iload_n 1, 1) := by decide +kernel
theorem d12_47 : decode jdk_65_method_30_code 47 = .ok (.ifCond .ge 12, 3) := by decide +kernel
theorem d12_50 : decode jdk_65_method_30_code 50 = .ok (.new 68, 3) := by decide +kernel
theorem d12_53 : decode jdk_65_method_30_code 53 = .ok (.dup, 1) := by decide +kernel
theorem d12_54 : decode jdk_65_method_30_code 54 = .ok (.iload_n 1, 1) := by decide +kernel
theorem d12_55 : decode jdk_65_method_30_code 55 = .ok (.invokespecial 70, 3) := by decide +kernel
theorem d12_58 : decode jdk_65_method_30_code 58 = .ok (.athrow, 1) := by decide +kernel
theorem d12_59 : decode jdk_65_method_30_code 59 = .ok (.iload_n 2, 1) := by decide +kernel
theorem d12_60 : decode jdk_65_method_30_code 60 = .ok (.iload_n 0, 1) := by decide +kernel
theorem d12_61 : decode jdk_65_method_30_code 61 = .ok (.if_icmp .le 12, 3) := by decide +kernel
theorem d12_64 : decode jdk_65_method_30_code 64 = .ok (.new 68, 3) := by decide +kernel
theorem d12_67 : decode jdk_65_method_30_code 67 = .ok (.dup, 1) := by decide +kernel
theorem d12_68 : decode jdk_65_method_30_code 68 = .ok (.iload_n 2, 1) := by decide +kernel
theorem d12_69 : decode jdk_65_method_30_code 69 = .ok (.invokespecial 70, 3) := by decide +kernel
theorem d12_72 : decode jdk_65_method_30_code 72 = .ok (.athrow, 1) := by decide +kernel
theorem d12_73 : decode jdk_65_method_30_code 73 = .ok (.return_, 1) := by decide +kernel
theorem pn_12 : plainFor (⟨"java/util/Arrays", "rangeCheck", "(III)V"⟩ : MethodName) = true := by first | (exact plainFor_of_name (by first | (simp [plainName, overriddenIn, x]; done) | decide +kernel)) | decide +kernel
set_option maxRecDepth 65536 in
set_option maxHeartbeats 40000000 in
theorem rm12 (l : Launch) (Z : State) (a0 : Array Value) (hw : ∀ d ∈ tables_1, d.before a0 Z = true) (p1 p2 p3 : Int32) (h0 : Heap) (q1 : p2 ≤ p3) (q2 : 0 ≤ p2) (q3 : p3 ≤ p1) :
    OMet l Z (⟨"java/util/Arrays", "rangeCheck", "(III)V"⟩ : MethodName) jdk_65_method_30_code 3 none [] ({ frames := 0, cells := 0, slots := 0, locals := 0 } : Room) #[.int p1, .int p2, .int p3] h0 (Pv h0) := by
  refine own_body (Ls := #[.val (.int p1), .val (.int p2), .val (.int p3)]) pn_12 (fun m => by first | (simp [entryFrame, mkF, argsToLocals, Value.category, maxLocals]; done) | rfl) ?_
  intro p e s m below meth c s₁ X0 hx hby hml hown hnm hret hlk hZ e0
  refine g_iloadN (n := 1) X0 hx (hb hby d12_0) rfl rfl ?_
  refine g_iloadN (n := 2) X0 hx (hb hby d12_1) rfl rfl ?_
  refine g_icmp (n := 46) (n' := 5) X0 hx _ (own_cle _ _) (hb hby d12_2) (by decide) (by decide) rfl (fun _ => ?_) (fun hc => absurd q1 hc)
  refine g_iloadN (n := 47) X0 hx (hb hby d12_46) rfl rfl ?_
  refine g_if (n := 59) (n' := 50) X0 hx _ (own_zge _) (hb hby d12_47) (by decide) (by decide) rfl (fun _ => ?_) (fun hc => absurd q2 hc)
  refine g_iloadN (n := 60) X0 hx (hb hby d12_59) rfl rfl ?_
  refine g_iloadN (n := 61) X0 hx (hb hby d12_60) rfl rfl ?_
  refine g_icmp (n := 73) (n' := 64) X0 hx _ (own_cle _ _) (hb hby d12_61) (by decide) (by decide) rfl (fun _ => ?_) (fun hc => absurd q3 hc)
  refine g_retV X0 hx hret hlk (hb hby d12_73) (Fe.of (by decide) (by decide)) ?_
  try rw [e0]
  exact ⟨rfl, rfl, rfl⟩
theorem d11_0 : decode jdk_65_method_118_code 0 = .ok (.aload_n 0, 1) := by decide +kernel
theorem d11_1 : decode jdk_65_method_118_code 1 = .ok (.arraylength, 1) := by decide +kernel
theorem d11_2 : decode jdk_65_method_118_code 2 = .ok (.iload_n 1, 1) := by decide +kernel
theorem d11_3 : decode jdk_65_method_118_code 3 = .ok (.iload_n 2, 1) := by decide +kernel
theorem d11_4 : decode jdk_65_method_118_code 4 = .ok (.invokestatic 13, 3) := by decide +kernel
theorem d11_7 : decode jdk_65_method_118_code 7 = .ok (.iload_n 1, 1) := by decide +kernel
theorem d11_8 : decode jdk_65_method_118_code 8 = .ok (.istore 4, 2) := by decide +kernel
theorem d11_10 : decode jdk_65_method_118_code 10 = .ok (.iload 4, 2) := by decide +kernel
theorem d11_12 : decode jdk_65_method_118_code 12 = .ok (.iload_n 2, 1) := by decide +kernel
theorem d11_13 : decode jdk_65_method_118_code 13 = .ok (.if_icmp .ge 14, 3) := by decide +kernel
theorem d11_16 : decode jdk_65_method_118_code 16 = .ok (.aload_n 0, 1) := by decide +kernel
theorem d11_17 : decode jdk_65_method_118_code 17 = .ok (.iload 4, 2) := by decide +kernel
theorem d11_19 : decode jdk_65_method_118_code 19 = .ok (.aload_n 3, 1) := by decide +kernel
theorem d11_20 : decode jdk_65_method_118_code 20 = .ok (.aastore, 1) := by decide +kernel
theorem d11_21 : decode jdk_65_method_118_code 21 = .ok (.iinc 4 1, 3) := by decide +kernel
theorem d11_24 : decode jdk_65_method_118_code 24 = .ok (.goto (-14), 3) := by decide +kernel
theorem d11_27 : decode jdk_65_method_118_code 27 = .ok (.return_, 1) := by decide +kernel
theorem pn_11 : plainFor (⟨"java/util/Arrays", "fill", "([Ljava/lang/Object;IILjava/lang/Object;)V"⟩ : MethodName) = true := by first | (exact plainFor_of_name (by first | (simp [plainName, overriddenIn, x]; done) | decide +kernel)) | decide +kernel
set_option maxRecDepth 65536 in
set_option maxHeartbeats 40000000 in
theorem rm11 (l : Launch) (Z : State) (a0 : Array Value) (hw : ∀ d ∈ tables_1, d.before a0 Z = true) (a1 : Nat) (cn : Nat) (f : Nat → Value) (h0 : Heap) (hcn : cn ≤ 16) (V : Av Z h0 a1 (.object "com/example/arenabuddy/arenabuddy/LeaseMemory") 16 f) :
    OMet l Z (⟨"java/util/Arrays", "fill", "([Ljava/lang/Object;IILjava/lang/Object;)V"⟩ : MethodName) jdk_65_method_118_code 5 none [] ({ frames := 1, cells := 0, slots := 0, locals := 14 } : Room) #[.ref a1, .int (Int32.ofNat cn), .int (Int32.ofNat cn), .null] h0 (Pv h0) := by
  refine own_body (Ls := #[.val (.ref a1), .val (.int (Int32.ofNat cn)), .val (.int (Int32.ofNat cn)), .val (.null), .unset]) pn_11 (fun m => by first | (simp [entryFrame, mkF, argsToLocals, Value.category, maxLocals]; done) | rfl) ?_
  intro p e s m below meth c s₁ X0 hx hby hml hown hnm hret hlk hZ e0
  refine g_aloadN (n := 1) X0 hx (hb hby d11_0) rfl rfl rfl ?_
  refine g_len (n := 2) X0 hx hZ e0 V (hb hby d11_1) rfl ?_
  refine g_iloadN (n := 3) X0 hx (hb hby d11_2) rfl rfl ?_
  refine g_iloadN (n := 4) X0 hx (hb hby d11_3) rfl rfl ?_
  refine g_callSV (n := 7) (st := []) X0 hx hZ hown e0 (hw _ (List.mem_of_getElem? (i := 83) rfl)) (hw _ (List.mem_of_getElem? (i := 84) rfl)) (hw _ (List.mem_of_getElem? (i := 81) rfl)) (hw _ (List.mem_of_getElem? (i := 85) rfl)) (by decide) [.int (Int32.ofNat 16), .int (Int32.ofNat cn), .int (Int32.ofNat cn)] (rm12 l Z a0 hw (Int32.ofNat 16) (Int32.ofNat cn) (Int32.ofNat cn) h0 Int32.le_rfl (Int32.not_lt.mp (own_nat (by omega)).2) ((own_le (by omega) (by omega)).mpr hcn)) pd_2 rfl (hb hby d11_4) rfl (by rw [hml]; rfl) (by decide) 0 (Nat.le_of_eq rfl) (by decide) (by decide) (by decide) ?_
  intro T11 X11 e11
  refine g_iloadN (n := 8) X11 hx (hb hby d11_7) rfl rfl ?_
  refine g_istore (n := 10) X11 hx (hb hby d11_8) rfl #[.val (.ref a1), .val (.int (Int32.ofNat cn)), .val (.int (Int32.ofNat cn)), .val (.null), .val (.int (Int32.ofNat cn))] rfl ?_
  refine g_iload (n := 12) X11 hx (hb hby d11_10) rfl rfl ?_
  refine g_iloadN (n := 13) X11 hx (hb hby d11_12) rfl rfl ?_
  refine g_icmp (n := 27) (n' := 16) X11 hx _ (own_cge _ _) (hb hby d11_13) (by decide) (by decide) rfl (fun _ => ?_) (fun hc => absurd Int32.le_rfl hc)
  refine g_retV X11 hx hret hlk (hb hby d11_27) (Fe.of (by decide) (by decide)) ?_
  try rw [e11]
  exact ⟨rfl, rfl, rfl⟩
theorem d10_0 : decode prog_12_method_4_code 0 = .ok (.aload_n 0, 1) := by decide +kernel
theorem d10_1 : decode prog_12_method_4_code 1 = .ok (.getfield 15, 3) := by decide +kernel
theorem d10_4 : decode prog_12_method_4_code 4 = .ok (.aload_n 0, 1) := by decide +kernel
theorem d10_5 : decode prog_12_method_4_code 5 = .ok (.getfield 20, 3) := by decide +kernel
theorem d10_8 : decode prog_12_method_4_code 8 = .ok (.isub, 1) := by decide +kernel
theorem d10_9 : decode prog_12_method_4_code 9 = .ok (.istore_n 1, 1) := by decide +kernel
theorem d10_10 : decode prog_12_method_4_code 10 = .ok (.aload_n 0, 1) := by decide +kernel
theorem d10_11 : decode prog_12_method_4_code 11 = .ok (.getfield 11, 3) := by decide +kernel
theorem d10_14 : decode prog_12_method_4_code 14 = .ok (.aload_n 0, 1) := by decide +kernel
theorem d10_15 : decode prog_12_method_4_code 15 = .ok (.getfield 20, 3) := by decide +kernel
theorem d10_18 : decode prog_12_method_4_code 18 = .ok (.aload_n 0, 1) := by decide +kernel
theorem d10_19 : decode prog_12_method_4_code 19 = .ok (.getfield 11, 3) := by decide +kernel
theorem d10_22 : decode prog_12_method_4_code 22 = .ok (.iconst 0, 1) := by decide +kernel
theorem d10_23 : decode prog_12_method_4_code 23 = .ok (.iload_n 1, 1) := by decide +kernel
theorem d10_24 : decode prog_12_method_4_code 24 = .ok (.invokestatic 45, 3) := by decide +kernel
theorem d10_27 : decode prog_12_method_4_code 27 = .ok (.aload_n 0, 1) := by decide +kernel
theorem d10_28 : decode prog_12_method_4_code 28 = .ok (.getfield 11, 3) := by decide +kernel
theorem d10_31 : decode prog_12_method_4_code 31 = .ok (.iload_n 1, 1) := by decide +kernel
theorem d10_32 : decode prog_12_method_4_code 32 = .ok (.aload_n 0, 1) := by decide +kernel
theorem d10_33 : decode prog_12_method_4_code 33 = .ok (.getfield 15, 3) := by decide +kernel
theorem d10_36 : decode prog_12_method_4_code 36 = .ok (.aconst_null, 1) := by decide +kernel
theorem d10_37 : decode prog_12_method_4_code 37 = .ok (.invokestatic 51, 3) := by decide +kernel
theorem d10_40 : decode prog_12_method_4_code 40 = .ok (.aload_n 0, 1) := by decide +kernel
theorem d10_41 : decode prog_12_method_4_code 41 = .ok (.getfield 39, 3) := by decide +kernel
theorem d10_44 : decode prog_12_method_4_code 44 = .ok (.aload_n 0, 1) := by decide +kernel
theorem d10_45 : decode prog_12_method_4_code 45 = .ok (.getfield 20, 3) := by decide +kernel
theorem d10_48 : decode prog_12_method_4_code 48 = .ok (.isub, 1) := by decide +kernel
theorem d10_49 : decode prog_12_method_4_code 49 = .ok (.istore_n 2, 1) := by decide +kernel
theorem d10_50 : decode prog_12_method_4_code 50 = .ok (.aload_n 0, 1) := by decide +kernel
theorem d10_51 : decode prog_12_method_4_code 51 = .ok (.getfield 11, 3) := by decide +kernel
theorem d10_54 : decode prog_12_method_4_code 54 = .ok (.arraylength, 1) := by decide +kernel
theorem d10_55 : decode prog_12_method_4_code 55 = .ok (.bipush 16, 2) := by decide +kernel
theorem d10_57 : decode prog_12_method_4_code 57 = .ok (.if_icmp .le 36, 3) := by decide +kernel
theorem d10_60 : decode prog_12_method_4_code 60 = .ok (.iload_n 2, 1) := by decide +kernel
theorem d10_61 : decode prog_12_method_4_code 61 = .ok (.aload_n 0, 1) := by decide +kernel
theorem d10_62 : decode prog_12_method_4_code 62 = .ok (.getfield 11, 3) := by decide +kernel
theorem d10_65 : decode prog_12_method_4_code 65 = .ok (.arraylength, 1) := by decide +kernel
theorem d10_66 : decode prog_12_method_4_code 66 = .ok (.iconst 4, 1) := by decide +kernel
theorem d10_67 : decode prog_12_method_4_code 67 = .ok (.idiv, 1) := by decide +kernel
theorem d10_68 : decode prog_12_method_4_code 68 = .ok (.if_icmp .gt 25, 3) := by decide +kernel
theorem d10_71 : decode prog_12_method_4_code 71 = .ok (.aload_n 0, 1) := by decide +kernel
theorem d10_72 : decode prog_12_method_4_code 72 = .ok (.aload_n 0, 1) := by decide +kernel
theorem d10_73 : decode prog_12_method_4_code 73 = .ok (.getfield 11, 3) := by decide +kernel
theorem d10_76 : decode prog_12_method_4_code 76 = .ok (.bipush 16, 2) := by decide +kernel
theorem d10_78 : decode prog_12_method_4_code 78 = .ok (.iconst 2, 1) := by decide +kernel
theorem d10_79 : decode prog_12_method_4_code 79 = .ok (.iload_n 2, 1) := by decide +kernel
theorem d10_80 : decode prog_12_method_4_code 80 = .ok (.imul, 1) := by decide +kernel
theorem d10_81 : decode prog_12_method_4_code 81 = .ok (.invokestatic 42, 3) := by decide +kernel
theorem d10_84 : decode prog_12_method_4_code 84 = .ok (.invokestatic 32, 3) := by decide +kernel
theorem d10_87 : decode prog_12_method_4_code 87 = .ok (.checkcast 38, 3) := by decide +kernel
theorem d10_90 : decode prog_12_method_4_code 90 = .ok (.putfield 11, 3) := by decide +kernel
theorem d10_93 : decode prog_12_method_4_code 93 = .ok (.aload_n 0, 1) := by decide +kernel
theorem d10_94 : decode prog_12_method_4_code 94 = .ok (.iload_n 1, 1) := by decide +kernel
theorem d10_95 : decode prog_12_method_4_code 95 = .ok (.putfield 15, 3) := by decide +kernel
theorem d10_98 : decode prog_12_method_4_code 98 = .ok (.aload_n 0, 1) := by decide +kernel
theorem d10_99 : decode prog_12_method_4_code 99 = .ok (.iload_n 1, 1) := by decide +kernel
theorem d10_100 : decode prog_12_method_4_code 100 = .ok (.putfield 20, 3) := by decide +kernel
theorem d10_103 : decode prog_12_method_4_code 103 = .ok (.aload_n 0, 1) := by decide +kernel
theorem d10_104 : decode prog_12_method_4_code 104 = .ok (.iload_n 1, 1) := by decide +kernel
theorem d10_105 : decode prog_12_method_4_code 105 = .ok (.putfield 39, 3) := by decide +kernel
theorem d10_108 : decode prog_12_method_4_code 108 = .ok (.return_, 1) := by decide +kernel
theorem pn_10 : plainFor (⟨"com/example/arenabuddy/arenabuddy/SpareRecords", "sweep", "()V"⟩ : MethodName) = true := by first | (exact plainFor_of_name (by first | (simp [plainName, overriddenIn, x]; done) | decide +kernel)) | decide +kernel
set_option maxRecDepth 65536 in
set_option maxHeartbeats 40000000 in
theorem rm10 (l : Launch) (Z : State) (a0 : Array Value) (hw : ∀ d ∈ tables_1, d.before a0 Z = true) (a1 r : Nat) (cn : Nat) (f : Nat → Value) (n0 : Nat) (h0 : Heap) (g1 : n0 ≤ a1) (gr : n0 ≤ r) (hr1 : r ≠ a1) (hcn : cn ≤ 16) (S : Sr Z h0 a1 r (Int32.ofNat cn) 0) (R : Ro Z h0 r f) :
    OMet l Z (⟨"com/example/arenabuddy/arenabuddy/SpareRecords", "sweep", "()V"⟩ : MethodName) prog_12_method_4_code 3 none [] ({ frames := 2, cells := 0, slots := 0, locals := 30 } : Room) #[.ref a1] h0 (fun v h L => v = none ∧ Fr n0 L ∧ Keep h0 h [a1, r] ∧ Sr Z h a1 r (Int32.ofNat cn) (Int32.ofNat cn) ∧ Ro Z h r f) := by
  refine own_body (Ls := #[.val (.ref a1), .unset, .unset]) pn_10 (fun m => by first | (simp [entryFrame, mkF, argsToLocals, Value.category, maxLocals]; done) | rfl) ?_
  intro p e s m below meth c s₁ X0 hx hby hml hown hnm hret hlk hZ e0
  refine g_aloadN (n := 1) X0 hx (hb hby d10_0) rfl rfl rfl ?_
  refine g_getF (n := 4) X0 hx hZ hown (hw _ (List.mem_of_getElem? (i := 29) rfl)) e0 S.2.2.1 (hb hby d10_1) rfl ?_
  intro T11 X11 e11
  refine g_aloadN (n := 5) X11 hx (hb hby d10_4) rfl rfl rfl ?_
  refine g_getF (n := 8) X11 hx hZ hown (hw _ (List.mem_of_getElem? (i := 31) rfl)) e11 S.2.2.2.1 (hb hby d10_5) rfl ?_
  intro T12 X12 e12
  refine g_isub (n := 9) X12 hx (hb hby d10_8) rfl ?_
  rw [own_sub0]
  refine g_istoreN (n := 10) X12 hx (hb hby d10_9) rfl #[.val (.ref a1), .val (.int (Int32.ofNat cn)), .unset] rfl ?_
  refine g_aloadN (n := 11) X12 hx (hb hby d10_10) rfl rfl rfl ?_
  refine g_getF (n := 14) X12 hx hZ hown (hw _ (List.mem_of_getElem? (i := 11) rfl)) e12 S.2.1 (hb hby d10_11) rfl ?_
  intro T13 X13 e13
  refine g_aloadN (n := 15) X13 hx (hb hby d10_14) rfl rfl rfl ?_
  refine g_getF (n := 18) X13 hx hZ hown (hw _ (List.mem_of_getElem? (i := 31) rfl)) e13 S.2.2.2.1 (hb hby d10_15) rfl ?_
  intro T14 X14 e14
  refine g_aloadN (n := 19) X14 hx (hb hby d10_18) rfl rfl rfl ?_
  refine g_getF (n := 22) X14 hx hZ hown (hw _ (List.mem_of_getElem? (i := 11) rfl)) e14 S.2.1 (hb hby d10_19) rfl ?_
  intro T15 X15 e15
  refine g_iconst (n := 23) X15 hx (0 : Int32) (hb hby d10_22) rfl rfl ?_
  refine g_iloadN (n := 24) X15 hx (hb hby d10_23) rfl rfl ?_
  refine g_acopy (n := 27) X15 hx hZ hown (hw _ (List.mem_of_getElem? (i := 75) rfl)) (hw _ (List.mem_of_getElem? (i := 78) rfl)) (hw _ (List.mem_of_getElem? (i := 76) rfl)) (hw _ (List.mem_of_getElem? (i := 77) rfl)) e15 R.1 R.1 R.fits R.fits 0 0 cn (Or.inr ⟨rfl, fun i hi => R.sto (R.2.2 (0 + i) (by omega))⟩) (by omega) (by omega) rfl rfl rfl (Fr.nil n0) gr (hb hby d10_24) rfl (by rw [hml]; rfl) (by decide) 0 (Nat.le_of_eq rfl) (by decide) ?_
  intro T16 h16 L16 X16 e16 N16 K16 A16
  have S1 := S.keep K16 (ninS (Ne.symm hr1) nin0)
  have R1 : Ro Z h16 r f := ⟨A16.congr (fun j hj => by split <;> first | rfl | (congr 1; omega)), own_ovr R.2.1 K16, fun j hj => (R.2.2 j hj).imp id fun ⟨y, q1, q2⟩ => ⟨y, q1, q2.keep K16⟩⟩
  refine g_aloadN (n := 28) X16 hx (hb hby d10_27) rfl rfl rfl ?_
  refine g_getF (n := 31) X16 hx hZ hown (hw _ (List.mem_of_getElem? (i := 11) rfl)) e16 S1.2.1 (hb hby d10_28) rfl ?_
  intro T17 X17 e17
  refine g_iloadN (n := 32) X17 hx (hb hby d10_31) rfl rfl ?_
  refine g_aloadN (n := 33) X17 hx (hb hby d10_32) rfl rfl rfl ?_
  refine g_getF (n := 36) X17 hx hZ hown (hw _ (List.mem_of_getElem? (i := 29) rfl)) e17 S1.2.2.1 (hb hby d10_33) rfl ?_
  intro T18 X18 e18
  refine g_aconstNull (n := 37) X18 hx (hb hby d10_36) rfl ?_
  refine g_callSV (n := 40) (st := []) X18 hx hZ hown e18 (hw _ (List.mem_of_getElem? (i := 79) rfl)) (hw _ (List.mem_of_getElem? (i := 80) rfl)) (hw _ (List.mem_of_getElem? (i := 81) rfl)) (hw _ (List.mem_of_getElem? (i := 82) rfl)) (by decide) [.ref r, .int (Int32.ofNat cn), .int (Int32.ofNat cn), .null] (rm11 l Z a0 hw r cn f h16 (by omega) R1.1) pd_3 rfl (hb hby d10_37) rfl (by rw [hml]; rfl) (by decide) 0 (Nat.le_of_eq rfl) (by decide) (by decide) (by decide) ?_
  intro T19 X19 e19
  refine g_aloadN (n := 41) X19 hx (hb hby d10_40) rfl rfl rfl ?_
  obtain ⟨mst, Fm⟩ := S1.2.2.2.2
  refine g_getF (n := 44) X19 hx hZ hown (hw _ (List.mem_of_getElem? (i := 33) rfl)) e19 Fm (hb hby d10_41) rfl ?_
  intro T20 X20 e20
  refine g_aloadN (n := 45) X20 hx (hb hby d10_44) rfl rfl rfl ?_
  refine g_getF (n := 48) X20 hx hZ hown (hw _ (List.mem_of_getElem? (i := 31) rfl)) e20 S1.2.2.2.1 (hb hby d10_45) rfl ?_
  intro T21 X21 e21
  refine g_isub (n := 49) X21 hx (hb hby d10_48) rfl ?_
  refine g_istoreN (n := 50) X21 hx (hb hby d10_49) rfl #[.val (.ref a1), .val (.int (Int32.ofNat cn)), .val (.int (mst - (0 : Int32)))] rfl ?_
  refine g_aloadN (n := 51) X21 hx (hb hby d10_50) rfl rfl rfl ?_
  refine g_getF (n := 54) X21 hx hZ hown (hw _ (List.mem_of_getElem? (i := 11) rfl)) e21 S1.2.1 (hb hby d10_51) rfl ?_
  intro T22 X22 e22
  refine g_len (n := 55) X22 hx hZ e22 R1.1 (hb hby d10_54) rfl ?_
  refine g_bipush (n := 57) X22 hx (16 : Int32) (hb hby d10_55) rfl rfl ?_
  refine g_icmp (n := 93) (n' := 60) X22 hx _ (own_cle _ _) (hb hby d10_57) (by decide) (by decide) rfl (fun _ => ?_) (fun hc => absurd (by decide) hc)
  refine g_aloadN (n := 94) X22 hx (hb hby d10_93) rfl rfl rfl ?_
  refine g_iloadN (n := 95) X22 hx (hb hby d10_94) rfl rfl ?_
  refine g_putF (n := 98) X22 hx hZ hown (hw _ (List.mem_of_getElem? (i := 29) rfl)) e22 S1.2.2.1 S1.1 (Or.inl (hw _ (List.mem_of_getElem? (i := 30) rfl))) (hw _ (List.mem_of_getElem? (i := 1) rfl)) (ty := .int) (by decide) rfl rfl (hb hby d10_95) rfl ?_
  intro T23 h23 X23 e23 W23
  have S23_ := S1.wcount hw _ W23
  refine g_aloadN (n := 99) X23 hx (hb hby d10_98) rfl rfl rfl ?_
  refine g_iloadN (n := 100) X23 hx (hb hby d10_99) rfl rfl ?_
  refine g_putF (n := 103) X23 hx hZ hown (hw _ (List.mem_of_getElem? (i := 31) rfl)) e23 S23_.2.2.2.1 S23_.1 (Or.inl (hw _ (List.mem_of_getElem? (i := 32) rfl))) (hw _ (List.mem_of_getElem? (i := 1) rfl)) (ty := .int) (by decide) rfl rfl (hb hby d10_100) rfl ?_
  intro T24 h24 X24 e24 W24
  have S24_ := S23_.wfewest hw _ W24
  refine g_aloadN (n := 104) X24 hx (hb hby d10_103) rfl rfl rfl ?_
  refine g_iloadN (n := 105) X24 hx (hb hby d10_104) rfl rfl ?_
  refine g_putF (n := 108) X24 hx hZ hown (hw _ (List.mem_of_getElem? (i := 33) rfl)) e24 S24_.2.2.2.2.choose_spec S24_.1 (Or.inl (hw _ (List.mem_of_getElem? (i := 34) rfl))) (hw _ (List.mem_of_getElem? (i := 1) rfl)) (ty := .int) (by decide) rfl rfl (hb hby d10_105) rfl ?_
  intro T25 h25 X25 e25 W25
  have S25_ := S24_.wmost hw _ W25
  refine g_retV X25 hx hret hlk (hb hby d10_108) (Fe.of (by decide) (by decide)) ?_
  try rw [e25]
  exact ⟨rfl, (Fr.snoc X25 (Fr.snoc X24 (Fr.snoc X23 N16 g1) g1) g1), ((((Keep.trans (ws := [a1, r]) (Keep.refl _ _) K16 (by intro x hx; left; simp at hx; simp [hx])).wr W23 (Or.inl (by simp))).wr W24 (Or.inl (by simp))).wr W25 (Or.inl (by simp))), S25_, (((R1.other W23 hr1).other W24 hr1).other W25 hr1)⟩
theorem d5_0 : decode prog_12_method_2_code 0 = .ok (.aload_n 0, 1) := by decide +kernel
theorem d5_1 : decode prog_12_method_2_code 1 = .ok (.getfield 15, 3) := by decide +kernel
theorem d5_4 : decode prog_12_method_2_code 4 = .ok (.ifCond .ne 14, 3) := by decide +kernel
theorem d5_7 : decode prog_12_method_2_code 7 = .ok (.new 9, 3) := by decide +kernel
theorem d5_10 : decode prog_12_method_2_code 10 = .ok (.dup, 1) := by decide +kernel
theorem d5_11 : decode prog_12_method_2_code 11 = .ok (.invokespecial 19, 3) := by decide +kernel
theorem d5_14 : decode prog_12_method_2_code 14 = .ok (.astore_n 1, 1) := by decide +kernel
theorem d5_15 : decode prog_12_method_2_code 15 = .ok (.goto 45, 3) := by decide +kernel
theorem d5_18 : decode prog_12_method_2_code 18 = .ok (.aload_n 0, 1) := by decide +kernel
theorem d5_19 : decode prog_12_method_2_code 19 = .ok (.getfield 11, 3) := by decide +kernel
theorem d5_22 : decode prog_12_method_2_code 22 = .ok (.aload_n 0, 1) := by decide +kernel
theorem d5_23 : decode prog_12_method_2_code 23 = .ok (.dup, 1) := by decide +kernel
theorem d5_24 : decode prog_12_method_2_code 24 = .ok (.getfield 15, 3) := by decide +kernel
theorem d5_27 : decode prog_12_method_2_code 27 = .ok (.iconst 1, 1) := by decide +kernel
theorem d5_28 : decode prog_12_method_2_code 28 = .ok (.isub, 1) := by decide +kernel
theorem d5_29 : decode prog_12_method_2_code 29 = .ok (.dup_x1, 1) := by decide +kernel
theorem d5_30 : decode prog_12_method_2_code 30 = .ok (.putfield 15, 3) := by decide +kernel
theorem d5_33 : decode prog_12_method_2_code 33 = .ok (.aaload, 1) := by decide +kernel
theorem d5_34 : decode prog_12_method_2_code 34 = .ok (.astore_n 1, 1) := by decide +kernel
theorem d5_35 : decode prog_12_method_2_code 35 = .ok (.aload_n 0, 1) := by decide +kernel
theorem d5_36 : decode prog_12_method_2_code 36 = .ok (.getfield 11, 3) := by decide +kernel
theorem d5_39 : decode prog_12_method_2_code 39 = .ok (.aload_n 0, 1) := by decide +kernel
theorem d5_40 : decode prog_12_method_2_code 40 = .ok (.getfield 15, 3) := by decide +kernel
theorem d5_43 : decode prog_12_method_2_code 43 = .ok (.aconst_null, 1) := by decide +kernel
theorem d5_44 : decode prog_12_method_2_code 44 = .ok (.aastore, 1) := by decide +kernel
theorem d5_45 : decode prog_12_method_2_code 45 = .ok (.aload_n 0, 1) := by decide +kernel
theorem d5_46 : decode prog_12_method_2_code 46 = .ok (.aload_n 0, 1) := by decide +kernel
theorem d5_47 : decode prog_12_method_2_code 47 = .ok (.getfield 20, 3) := by decide +kernel
theorem d5_50 : decode prog_12_method_2_code 50 = .ok (.aload_n 0, 1) := by decide +kernel
theorem d5_51 : decode prog_12_method_2_code 51 = .ok (.getfield 15, 3) := by decide +kernel
theorem d5_54 : decode prog_12_method_2_code 54 = .ok (.invokestatic 23, 3) := by decide +kernel
theorem d5_57 : decode prog_12_method_2_code 57 = .ok (.putfield 20, 3) := by decide +kernel
theorem d5_60 : decode prog_12_method_2_code 60 = .ok (.aload_n 1, 1) := by decide +kernel
theorem d5_61 : decode prog_12_method_2_code 61 = .ok (.areturn, 1) := by decide +kernel
theorem pn_5 : plainFor (⟨"com/example/arenabuddy/arenabuddy/SpareRecords", "take", "()Lcom/example/arenabuddy/arenabuddy/LeaseMemory;"⟩ : MethodName) = true := by first | (exact plainFor_of_name (by first | (simp [plainName, overriddenIn, x]; done) | decide +kernel)) | decide +kernel
set_option maxRecDepth 65536 in
set_option maxHeartbeats 40000000 in
theorem rm5 (l : Launch) (Z : State) (a0 : Array Value) (hw : ∀ d ∈ tables_1, d.before a0 Z = true) (a1 r : Nat) (few : Int32) (n0 : Nat) (h0 : Heap) (Z0 : n0 ≤ h0.size) (S : Sr Z h0 a1 r 0 few) :
    OMet l Z (⟨"com/example/arenabuddy/arenabuddy/SpareRecords", "take", "()Lcom/example/arenabuddy/arenabuddy/LeaseMemory;"⟩ : MethodName) prog_12_method_2_code 2 (some (.object "com/example/arenabuddy/arenabuddy/LeaseMemory")) [] ({ frames := 2, cells := 1, slots := 10, locals := 25 } : Room) #[.ref a1] h0 (fun v h L => ∃ t : Nat, v = some (.ref t) ∧ h0.size ≤ t ∧ Fr n0 L) := by
  refine own_body (Ls := #[.val (.ref a1), .unset]) pn_5 (fun m => by first | (simp [entryFrame, mkF, argsToLocals, Value.category, maxLocals]; done) | rfl) ?_
  intro p e s m below meth c s₁ X0 hx hby hml hown hnm hret hlk hZ e0
  refine g_aloadN (n := 1) X0 hx (hb hby d5_0) rfl rfl rfl ?_
  refine g_getF (n := 4) X0 hx hZ hown (hw _ (List.mem_of_getElem? (i := 29) rfl)) e0 S.2.2.1 (hb hby d5_1) rfl ?_
  intro T11 X11 e11
  refine g_if (n := 18) (n' := 7) X11 hx _ (own_zne _) (hb hby d5_4) (by decide) (by decide) rfl (fun hc => absurd hc (by decide)) (fun _ => ?_)
  refine g_new (n := 10) X11 hx hZ hown (hw _ (List.mem_of_getElem? (i := 9) rfl)) (hw _ (List.mem_of_getElem? (i := 14) rfl)) (hw _ (List.mem_of_getElem? (i := 15) rfl)) e11 (hb hby d5_7) rfl (by decide) (by decide) ?_
  intro T12 h12 a12 X12 e12 z12 E12 K12 D12
  refine g_dup (n := 11) X12 hx (hb hby d5_10) rfl rfl ?_
  refine g_callI (n := 14) (st := [(.ref a12)]) X12 hx hZ hown e12 rfl (hw _ (List.mem_of_getElem? (i := 40) rfl)) (hw _ (List.mem_of_getElem? (i := 17) rfl)) (hw _ (List.mem_of_getElem? (i := 15) rfl)) (hw _ (List.mem_of_getElem? (i := 18) rfl)) (by decide) a12 [] (rm3 l Z a0 hw a12 n0 h12 (by omega) K12 (D12 (Or.inl (hw _ (List.mem_of_getElem? (i := 21) rfl))) (ty := .int) (by decide +kernel)) (D12 (Or.inl (hw _ (List.mem_of_getElem? (i := 23) rfl))) (ty := .int) (by decide +kernel)) (D12 (Or.inl (hw _ (List.mem_of_getElem? (i := 56) rfl))) (ty := .object "com/example/arenabuddy/arenabuddy/ThreadCache") (by decide +kernel)) (D12 (Or.inl (hw _ (List.mem_of_getElem? (i := 58) rfl))) (ty := .object "com/example/arenabuddy/arenabuddy/chunk/Chunk") (by decide +kernel)) (D12 (Or.inl (hw _ (List.mem_of_getElem? (i := 60) rfl))) (ty := .object "com/example/arenabuddy/arenabuddy/chunk/SlotRun") (by decide +kernel)) (D12 (Or.inl (hw _ (List.mem_of_getElem? (i := 62) rfl))) (ty := .object "java/nio/ByteBuffer") (by decide +kernel)) (D12 (Or.inl (hw _ (List.mem_of_getElem? (i := 64) rfl))) (ty := .object "com/example/arenabuddy/arenabuddy/Lease") (by decide +kernel))) pd_0 rfl (hb hby d5_11) rfl (by rw [hml]; rfl) (by decide) 1 (Nat.le_of_eq rfl) (by decide) (by decide) (by decide) ?_
  intro T13 h13 v13 L13 X13 e13 Q13
  obtain ⟨rfl, N13, K13, L13'⟩ := Q13
  refine g_astoreN (n := 15) X13 hx (hb hby d5_14) rfl rfl #[.val (.ref a1), .val (.ref a12)] rfl ?_
  refine g_goto (n := 60) X13 hx (hb hby d5_15) (by decide) (by decide) ?_
  refine g_aloadN (n := 61) X13 hx (hb hby d5_60) rfl rfl rfl ?_
  refine g_retA X13 hx hret rfl rfl hlk (hb hby d5_61) (Fe.of (by decide) (by decide)) ?_
  try rw [e13]
  exact ⟨a12, rfl, by omega, Fr.app (Fr.nil n0) N13⟩
set_option maxRecDepth 65536 in
set_option maxHeartbeats 40000000 in
theorem rm5b (l : Launch) (Z : State) (a0 : Array Value) (hw : ∀ d ∈ tables_1, d.before a0 Z = true) (a1 r x : Nat) (few : Int32) (f : Nat → Value) (n0 : Nat) (h0 : Heap) (g1 : n0 ≤ a1) (gr : n0 ≤ r) (hr1 : r ≠ a1) (S : Sr Z h0 a1 r 1 few) (R : Ro Z h0 r f) (hx0 : f 0 = .ref x) :
    OMet l Z (⟨"com/example/arenabuddy/arenabuddy/SpareRecords", "take", "()Lcom/example/arenabuddy/arenabuddy/LeaseMemory;"⟩ : MethodName) prog_12_method_2_code 2 (some (.object "com/example/arenabuddy/arenabuddy/LeaseMemory")) [] ({ frames := 1, cells := 0, slots := 0, locals := 14 } : Room) #[.ref a1] h0 (fun v h L => v = some (.ref x) ∧ Fr n0 L ∧ Keep h0 h [a1, r] ∧ ∃ few' : Int32, Sr Z h a1 r ((1 : Int32) - (1 : Int32)) few') := by
  refine own_body (Ls := #[.val (.ref a1), .unset]) pn_5 (fun m => by first | (simp [entryFrame, mkF, argsToLocals, Value.category, maxLocals]; done) | rfl) ?_
  intro p e s m below meth c s₁ X0 hx hby hml hown hnm hret hlk hZ e0
  refine g_aloadN (n := 1) X0 hx (hb hby d5_0) rfl rfl rfl ?_
  refine g_getF (n := 4) X0 hx hZ hown (hw _ (List.mem_of_getElem? (i := 29) rfl)) e0 S.2.2.1 (hb hby d5_1) rfl ?_
  intro T11 X11 e11
  refine g_if (n := 18) (n' := 7) X11 hx _ (own_zne _) (hb hby d5_4) (by decide) (by decide) rfl (fun _ => ?_) (fun hc => absurd (by decide) hc)
  refine g_aloadN (n := 19) X11 hx (hb hby d5_18) rfl rfl rfl ?_
  refine g_getF (n := 22) X11 hx hZ hown (hw _ (List.mem_of_getElem? (i := 11) rfl)) e11 S.2.1 (hb hby d5_19) rfl ?_
  intro T12 X12 e12
  refine g_aloadN (n := 23) X12 hx (hb hby d5_22) rfl rfl rfl ?_
  refine g_dup (n := 24) X12 hx (hb hby d5_23) rfl rfl ?_
  refine g_getF (n := 27) X12 hx hZ hown (hw _ (List.mem_of_getElem? (i := 29) rfl)) e12 S.2.2.1 (hb hby d5_24) rfl ?_
  intro T13 X13 e13
  refine g_iconst (n := 28) X13 hx (1 : Int32) (hb hby d5_27) rfl rfl ?_
  refine g_isub (n := 29) X13 hx (hb hby d5_28) rfl ?_
  refine g_dupX1 (n := 30) X13 hx (hb hby d5_29) rfl rfl rfl ?_
  refine g_putF (n := 33) X13 hx hZ hown (hw _ (List.mem_of_getElem? (i := 29) rfl)) e13 S.2.2.1 S.1 (Or.inl (hw _ (List.mem_of_getElem? (i := 30) rfl))) (hw _ (List.mem_of_getElem? (i := 1) rfl)) (ty := .int) (by decide) rfl rfl (hb hby d5_30) rfl ?_
  intro T14 h14 X14 e14 W14
  have S1 := S.wcount hw _ W14
  have R1 := R.other W14 hr1
  refine g_aaload (n := 34) X14 hx hZ e14 R1.1 rfl 0 (by decide) (by decide) (.ref x) hx0 (hb hby d5_33) rfl ?_
  refine g_astoreN (n := 35) X14 hx (hb hby d5_34) rfl rfl #[.val (.ref a1), .val (.ref x)] rfl ?_
  refine g_aloadN (n := 36) X14 hx (hb hby d5_35) rfl rfl rfl ?_
  refine g_getF (n := 39) X14 hx hZ hown (hw _ (List.mem_of_getElem? (i := 11) rfl)) e14 S1.2.1 (hb hby d5_36) rfl ?_
  intro T15 X15 e15
  refine g_aloadN (n := 40) X15 hx (hb hby d5_39) rfl rfl rfl ?_
  refine g_getF (n := 43) X15 hx hZ hown (hw _ (List.mem_of_getElem? (i := 29) rfl)) e15 S1.2.2.1 (hb hby d5_40) rfl ?_
  intro T16 X16 e16
  refine g_aconstNull (n := 44) X16 hx (hb hby d5_43) rfl ?_
  refine g_aastore (n := 45) X16 hx hZ e16 R1.1 rfl 0 (by decide) (by decide) (Or.inl rfl) (hb hby d5_44) rfl ?_
  intro T17 h17 X17 e17 W17 A17
  have S2 := S1.other W17 (Ne.symm hr1)
  refine g_aloadN (n := 46) X17 hx (hb hby d5_45) rfl rfl rfl ?_
  refine g_aloadN (n := 47) X17 hx (hb hby d5_46) rfl rfl rfl ?_
  refine g_getF (n := 50) X17 hx hZ hown (hw _ (List.mem_of_getElem? (i := 31) rfl)) e17 S2.2.2.2.1 (hb hby d5_47) rfl ?_
  intro T18 X18 e18
  refine g_aloadN (n := 51) X18 hx (hb hby d5_50) rfl rfl rfl ?_
  refine g_getF (n := 54) X18 hx hZ hown (hw _ (List.mem_of_getElem? (i := 29) rfl)) e18 S2.2.2.1 (hb hby d5_51) rfl ?_
  intro T19 X19 e19
  refine g_callSP (n := 57) (st := [(.ref a1)]) X19 hx hZ hown e19 (hw _ (List.mem_of_getElem? (i := 86) rfl)) (hw _ (List.mem_of_getElem? (i := 87) rfl)) (hw _ (List.mem_of_getElem? (i := 68) rfl)) (hw _ (List.mem_of_getElem? (i := 88) rfl)) (by decide) [.int few, .int ((1 : Int32) - (1 : Int32))] (rm13 l Z a0 hw few ((1 : Int32) - (1 : Int32)) h17) pd_1 rfl (hb hby d5_54) rfl (by rw [hml]; rfl) (by decide) 1 (Nat.le_of_eq rfl) (by decide) (by decide) (by decide) ?_
  intro T20 X20 e20
  refine g_putF (n := 60) X20 hx hZ hown (hw _ (List.mem_of_getElem? (i := 31) rfl)) e20 S2.2.2.2.1 S2.1 (Or.inl (hw _ (List.mem_of_getElem? (i := 32) rfl))) (hw _ (List.mem_of_getElem? (i := 1) rfl)) (ty := .int) (by decide) rfl rfl (hb hby d5_57) rfl ?_
  intro T21 h21 X21 e21 W21
  have S3 := S2.wfewest hw _ W21
  refine g_aloadN (n := 61) X21 hx (hb hby d5_60) rfl rfl rfl ?_
  refine g_retA X21 hx hret rfl rfl hlk (hb hby d5_61) (Fe.of (by decide) (by decide)) ?_
  try rw [e21]
  exact ⟨rfl, Fr.snoc X21 (Fr.snoc X17 (Fr.snoc X14 (Fr.nil n0) g1) gr) g1, (((Keep.refl _ [a1, r]).wr W14 (Or.inl (by simp))).wr W17 (Or.inl (by simp))).wr W21 (Or.inl (by simp)), _, S3⟩
theorem d6_0 : decode method_3_code 0 = .ok (.aload_n 0, 1) := by decide +kernel
theorem d6_1 : decode method_3_code 1 = .ok (.ifnull 22, 3) := by decide +kernel
theorem d6_4 : decode method_3_code 4 = .ok (.aload_n 0, 1) := by decide +kernel
theorem d6_5 : decode method_3_code 5 = .ok (.aload_n 1, 1) := by decide +kernel
theorem d6_6 : decode method_3_code 6 = .ok (.if_acmp .eq 17, 3) := by decide +kernel
theorem d6_9 : decode method_3_code 9 = .ok (.aload_n 0, 1) := by decide +kernel
theorem d6_10 : decode method_3_code 10 = .ok (.aload_n 2, 1) := by decide +kernel
theorem d6_11 : decode method_3_code 11 = .ok (.if_acmp .eq 12, 3) := by decide +kernel
theorem d6_14 : decode method_3_code 14 = .ok (.aload_n 0, 1) := by decide +kernel
theorem d6_15 : decode method_3_code 15 = .ok (.aload_n 3, 1) := by decide +kernel
theorem d6_16 : decode method_3_code 16 = .ok (.if_acmp .eq 7, 3) := by decide +kernel
theorem d6_19 : decode method_3_code 19 = .ok (.iconst 1, 1) := by decide +kernel
theorem d6_20 : decode method_3_code 20 = .ok (.goto 4, 3) := by decide +kernel
theorem d6_23 : decode method_3_code 23 = .ok (.iconst 0, 1) := by decide +kernel
theorem d6_24 : decode method_3_code 24 = .ok (.ireturn, 1) := by decide +kernel
theorem pn_6 : plainFor (⟨"com/example/arenabuddy/arenabuddy/SpareRecordsDropAllPinLaw", "fresh", "(Lcom/example/arenabuddy/arenabuddy/LeaseMemory;Lcom/example/arenabuddy/arenabuddy/LeaseMemory;Lcom/example/arenabuddy/arenabuddy/LeaseMemory;Lcom/example/arenabuddy/arenabuddy/LeaseMemory;)Z"⟩ : MethodName) = true := by first | (exact plainFor_of_name (by first | (simp [plainName, overriddenIn, x]; done) | decide +kernel)) | decide +kernel
set_option maxRecDepth 65536 in
set_option maxHeartbeats 40000000 in
theorem rm6 (l : Launch) (Z : State) (a0 : Array Value) (hw : ∀ d ∈ tables_1, d.before a0 Z = true) (a1 a2 a3 a4 : Nat) (h0 : Heap) (h2 : a1 ≠ a2) (h3 : a1 ≠ a3) (h4 : a1 ≠ a4) :
    OMet l Z (⟨"com/example/arenabuddy/arenabuddy/SpareRecordsDropAllPinLaw", "fresh", "(Lcom/example/arenabuddy/arenabuddy/LeaseMemory;Lcom/example/arenabuddy/arenabuddy/LeaseMemory;Lcom/example/arenabuddy/arenabuddy/LeaseMemory;Lcom/example/arenabuddy/arenabuddy/LeaseMemory;)Z"⟩ : MethodName) method_3_code 4 (some (.boolean)) [] ({ frames := 0, cells := 0, slots := 0, locals := 0 } : Room) #[.ref a1, .ref a2, .ref a3, .ref a4] h0 (Pu (.int 1) h0) := by
  refine own_body (Ls := #[.val (.ref a1), .val (.ref a2), .val (.ref a3), .val (.ref a4)]) pn_6 (fun m => by first | (simp [entryFrame, mkF, argsToLocals, Value.category, maxLocals]; done) | rfl) ?_
  intro p e s m below meth c s₁ X0 hx hby hml hown hnm hret hlk hZ e0
  refine g_aloadN (n := 1) X0 hx (hb hby d6_0) rfl rfl rfl ?_
  refine g_ifnullNo (n := 4) X0 hx (hb hby d6_1) rfl ?_
  refine g_aloadN (n := 5) X0 hx (hb hby d6_4) rfl rfl rfl ?_
  refine g_aloadN (n := 6) X0 hx (hb hby d6_5) rfl rfl rfl ?_
  refine g_acmp (n := 23) (n' := 9) X0 hx _ (own_aeq _ _) rfl rfl (hb hby d6_6) (by decide) (by decide) rfl (fun hc => absurd hc (fun q => h2 (by injection q))) (fun _ => ?_)
  refine g_aloadN (n := 10) X0 hx (hb hby d6_9) rfl rfl rfl ?_
  refine g_aloadN (n := 11) X0 hx (hb hby d6_10) rfl rfl rfl ?_
  refine g_acmp (n := 23) (n' := 14) X0 hx _ (own_aeq _ _) rfl rfl (hb hby d6_11) (by decide) (by decide) rfl (fun hc => absurd hc (fun q => h3 (by injection q))) (fun _ => ?_)
  refine g_aloadN (n := 15) X0 hx (hb hby d6_14) rfl rfl rfl ?_
  refine g_aloadN (n := 16) X0 hx (hb hby d6_15) rfl rfl rfl ?_
  refine g_acmp (n := 23) (n' := 19) X0 hx _ (own_aeq _ _) rfl rfl (hb hby d6_16) (by decide) (by decide) rfl (fun hc => absurd hc (fun q => h4 (by injection q))) (fun _ => ?_)
  refine g_iconst (n := 20) X0 hx (1 : Int32) (hb hby d6_19) rfl rfl ?_
  refine g_goto (n := 24) X0 hx (hb hby d6_20) (by decide) (by decide) ?_
  refine g_retZ X0 hx (by decide) hret hlk (hb hby d6_24) (Fe.of (by decide) (by decide)) ?_
  try rw [e0]
  exact ⟨rfl, rfl, rfl⟩
theorem pn_0 : plainFor x = true := by first | (exact plainFor_of_name (by first | (simp [plainName, overriddenIn, x]; done) | decide +kernel)) | decide +kernel
set_option maxRecDepth 65536 in
set_option maxHeartbeats 40000000 in
theorem rm0 (l : Launch) (Z : State) (a0 : Array Value) (hw : ∀ d ∈ tables_1, d.before a0 Z = true) (p1 : Int32) (h0 : Heap) :
    OMet l Z x code maxLocals ret tables_1 room_1 #[.int p1] h0 (fun v h L => v = some (.int 1) ∧ Fr h0.size L) := by
  refine own_body (Ls := #[.val (.int p1), .unset, .unset, .unset, .unset, .unset, .unset, .unset, .unset, .unset, .unset, .unset]) pn_0 (fun m => by first | (simp [entryFrame, mkF, argsToLocals, Value.category, maxLocals]; done) | rfl) ?_
  intro p e s m below meth c s₁ X0 hx hby hml hown hnm hret hlk hZ e0
  refine g_iloadN (n := 1) X0 hx (hb hby at_0) rfl rfl ?_
  refine g_iconst (n := 2) X0 hx (1 : Int32) (hb hby at_1) rfl rfl ?_
  refine g_iand (n := 3) X0 hx (hb hby at_2) rfl ?_
  suffices hJ1 : ∀ f1 : Int32, Go p e below (Fe s room_1.cells room_1.slots) (fun v h L => v = some (.int 1) ∧ Fr h0.size L) s₁ (mkF m 11 #[.val (.int p1), .unset, .unset, .unset, .unset, .unset, .unset, .unset, .unset, .unset, .unset, .unset] [(.int f1)]) by
    refine g_if (n := 10) (n' := 6) X0 hx _ (own_zeq _) (hb hby at_3) (by decide) (by decide) rfl (fun hc => ?_) (fun hc => ?_)
    · refine g_iconst (n := 11) X0 hx (0 : Int32) (hb hby at_10) rfl rfl ?_
      exact hJ1 _
    · refine g_iconst (n := 7) X0 hx (1 : Int32) (hb hby at_6) rfl rfl ?_
      refine g_goto (n := 11) X0 hx (hb hby at_7) (by decide) (by decide) ?_
      exact hJ1 _
  intro f1
  refine g_istoreN (n := 12) X0 hx (hb hby at_11) rfl #[.val (.int p1), .val (.int f1), .unset, .unset, .unset, .unset, .unset, .unset, .unset, .unset, .unset, .unset] rfl ?_
  refine g_iloadN (n := 13) X0 hx (hb hby at_12) rfl rfl ?_
  refine g_iconst (n := 14) X0 hx (2 : Int32) (hb hby at_13) rfl rfl ?_
  refine g_iand (n := 15) X0 hx (hb hby at_14) rfl ?_
  suffices hJ2 : ∀ f2 : Int32, Go p e below (Fe s room_1.cells room_1.slots) (fun v h L => v = some (.int 1) ∧ Fr h0.size L) s₁ (mkF m 23 #[.val (.int p1), .val (.int f1), .unset, .unset, .unset, .unset, .unset, .unset, .unset, .unset, .unset, .unset] [(.int f2)]) by
    refine g_if (n := 22) (n' := 18) X0 hx _ (own_zeq _) (hb hby at_15) (by decide) (by decide) rfl (fun hc => ?_) (fun hc => ?_)
    · refine g_iconst (n := 23) X0 hx (0 : Int32) (hb hby at_22) rfl rfl ?_
      exact hJ2 _
    · refine g_iconst (n := 19) X0 hx (1 : Int32) (hb hby at_18) rfl rfl ?_
      refine g_goto (n := 23) X0 hx (hb hby at_19) (by decide) (by decide) ?_
      exact hJ2 _
  intro f2
  refine g_istoreN (n := 24) X0 hx (hb hby at_23) rfl #[.val (.int p1), .val (.int f1), .val (.int f2), .unset, .unset, .unset, .unset, .unset, .unset, .unset, .unset, .unset] rfl ?_
  refine g_iloadN (n := 25) X0 hx (hb hby at_24) rfl rfl ?_
  refine g_iconst (n := 26) X0 hx (4 : Int32) (hb hby at_25) rfl rfl ?_
  refine g_iand (n := 27) X0 hx (hb hby at_26) rfl ?_
  suffices hJ3 : ∀ f3 : Int32, Go p e below (Fe s room_1.cells room_1.slots) (fun v h L => v = some (.int 1) ∧ Fr h0.size L) s₁ (mkF m 35 #[.val (.int p1), .val (.int f1), .val (.int f2), .unset, .unset, .unset, .unset, .unset, .unset, .unset, .unset, .unset] [(.int f3)]) by
    refine g_if (n := 34) (n' := 30) X0 hx _ (own_zeq _) (hb hby at_27) (by decide) (by decide) rfl (fun hc => ?_) (fun hc => ?_)
    · refine g_iconst (n := 35) X0 hx (0 : Int32) (hb hby at_34) rfl rfl ?_
      exact hJ3 _
    · refine g_iconst (n := 31) X0 hx (1 : Int32) (hb hby at_30) rfl rfl ?_
      refine g_goto (n := 35) X0 hx (hb hby at_31) (by decide) (by decide) ?_
      exact hJ3 _
  intro f3
  refine g_istoreN (n := 36) X0 hx (hb hby at_35) rfl #[.val (.int p1), .val (.int f1), .val (.int f2), .val (.int f3), .unset, .unset, .unset, .unset, .unset, .unset, .unset, .unset] rfl ?_
  refine g_iloadN (n := 37) X0 hx (hb hby at_36) rfl rfl ?_
  refine g_bipush (n := 39) X0 hx (8 : Int32) (hb hby at_37) rfl rfl ?_
  refine g_iand (n := 40) X0 hx (hb hby at_39) rfl ?_
  suffices hJ4 : ∀ f4 : Int32, Go p e below (Fe s room_1.cells room_1.slots) (fun v h L => v = some (.int 1) ∧ Fr h0.size L) s₁ (mkF m 48 #[.val (.int p1), .val (.int f1), .val (.int f2), .val (.int f3), .unset, .unset, .unset, .unset, .unset, .unset, .unset, .unset] [(.int f4)]) by
    refine g_if (n := 47) (n' := 43) X0 hx _ (own_zeq _) (hb hby at_40) (by decide) (by decide) rfl (fun hc => ?_) (fun hc => ?_)
    · refine g_iconst (n := 48) X0 hx (0 : Int32) (hb hby at_47) rfl rfl ?_
      exact hJ4 _
    · refine g_iconst (n := 44) X0 hx (1 : Int32) (hb hby at_43) rfl rfl ?_
      refine g_goto (n := 48) X0 hx (hb hby at_44) (by decide) (by decide) ?_
      exact hJ4 _
  intro f4
  refine g_istore (n := 50) X0 hx (hb hby at_48) rfl #[.val (.int p1), .val (.int f1), .val (.int f2), .val (.int f3), .val (.int f4), .unset, .unset, .unset, .unset, .unset, .unset, .unset] rfl ?_
  refine g_iloadN (n := 51) X0 hx (hb hby at_50) rfl rfl ?_
  refine g_bipush (n := 53) X0 hx (16 : Int32) (hb hby at_51) rfl rfl ?_
  refine g_iand (n := 54) X0 hx (hb hby at_53) rfl ?_
  suffices hJ5 : ∀ f5 : Int32, Go p e below (Fe s room_1.cells room_1.slots) (fun v h L => v = some (.int 1) ∧ Fr h0.size L) s₁ (mkF m 62 #[.val (.int p1), .val (.int f1), .val (.int f2), .val (.int f3), .val (.int f4), .unset, .unset, .unset, .unset, .unset, .unset, .unset] [(.int f5)]) by
    refine g_if (n := 61) (n' := 57) X0 hx _ (own_zeq _) (hb hby at_54) (by decide) (by decide) rfl (fun hc => ?_) (fun hc => ?_)
    · refine g_iconst (n := 62) X0 hx (0 : Int32) (hb hby at_61) rfl rfl ?_
      exact hJ5 _
    · refine g_iconst (n := 58) X0 hx (1 : Int32) (hb hby at_57) rfl rfl ?_
      refine g_goto (n := 62) X0 hx (hb hby at_58) (by decide) (by decide) ?_
      exact hJ5 _
  intro f5
  refine g_istore (n := 64) X0 hx (hb hby at_62) rfl #[.val (.int p1), .val (.int f1), .val (.int f2), .val (.int f3), .val (.int f4), .val (.int f5), .unset, .unset, .unset, .unset, .unset, .unset] rfl ?_
  refine g_new (n := 67) X0 hx hZ hown (hw _ (List.mem_of_getElem? (i := 0) rfl)) (hw _ (List.mem_of_getElem? (i := 1) rfl)) (hw _ (List.mem_of_getElem? (i := 2) rfl)) e0 (hb hby at_64) rfl (by decide) (by decide) ?_
  intro T11 h11 a11 X11 e11 z11 E11 K11 D11
  refine g_dup (n := 68) X11 hx (hb hby at_67) rfl rfl ?_
  refine g_callI (n := 71) (st := [(.ref a11)]) X11 hx hZ hown e11 rfl (hw _ (List.mem_of_getElem? (i := 3) rfl)) (hw _ (List.mem_of_getElem? (i := 4) rfl)) (hw _ (List.mem_of_getElem? (i := 2) rfl)) (hw _ (List.mem_of_getElem? (i := 5) rfl)) (by decide) a11 [] (rm1 l Z a0 hw a11 h0.size h11 (by omega) K11 (D11 (Or.inl (hw _ (List.mem_of_getElem? (i := 12) rfl))) (ty := .array (.object "com/example/arenabuddy/arenabuddy/LeaseMemory")) (by decide +kernel)) (D11 (Or.inl (hw _ (List.mem_of_getElem? (i := 30) rfl))) (ty := .int) (by decide +kernel)) (D11 (Or.inl (hw _ (List.mem_of_getElem? (i := 32) rfl))) (ty := .int) (by decide +kernel)) (D11 (Or.inl (hw _ (List.mem_of_getElem? (i := 34) rfl))) (ty := .int) (by decide +kernel))) pd_0 rfl (hb hby at_68) rfl (by rw [hml]; rfl) (by decide) 1 (Nat.le_of_eq rfl) (by decide) (by decide) (by decide) ?_
  intro T12 h12 v12 L12 X12 e12 Q12
  obtain ⟨rfl, N12, K12, r, gr, S12, R12⟩ := Q12
  refine g_astore (n := 73) X12 hx (hb hby at_71) rfl rfl #[.val (.int p1), .val (.int f1), .val (.int f2), .val (.int f3), .val (.int f4), .val (.int f5), .val (.ref a11), .unset, .unset, .unset, .unset, .unset] rfl ?_
  have lk12 := own_elt K11
  have zs12 : h0.size ≤ h11.size := E11.1
  have kz12 := K12.1
  have lo12 := own_elt S12.1
  have lr12 := R12.1.lt
  refine g_new (n := 76) X12 hx hZ hown (hw _ (List.mem_of_getElem? (i := 13) rfl)) (hw _ (List.mem_of_getElem? (i := 14) rfl)) (hw _ (List.mem_of_getElem? (i := 15) rfl)) e12 (hb hby at_73) rfl (by decide) (by decide) ?_
  intro T13 h13 a13 X13 e13 z13 E13 K13 D13
  refine g_dup (n := 77) X13 hx (hb hby at_76) rfl rfl ?_
  refine g_callI (n := 80) (st := [(.ref a13)]) X13 hx hZ hown e13 rfl (hw _ (List.mem_of_getElem? (i := 16) rfl)) (hw _ (List.mem_of_getElem? (i := 17) rfl)) (hw _ (List.mem_of_getElem? (i := 15) rfl)) (hw _ (List.mem_of_getElem? (i := 18) rfl)) (by decide) a13 [] (rm3 l Z a0 hw a13 h0.size h13 (by omega) K13 (D13 (Or.inl (hw _ (List.mem_of_getElem? (i := 21) rfl))) (ty := .int) (by decide +kernel)) (D13 (Or.inl (hw _ (List.mem_of_getElem? (i := 23) rfl))) (ty := .int) (by decide +kernel)) (D13 (Or.inl (hw _ (List.mem_of_getElem? (i := 56) rfl))) (ty := .object "com/example/arenabuddy/arenabuddy/ThreadCache") (by decide +kernel)) (D13 (Or.inl (hw _ (List.mem_of_getElem? (i := 58) rfl))) (ty := .object "com/example/arenabuddy/arenabuddy/chunk/Chunk") (by decide +kernel)) (D13 (Or.inl (hw _ (List.mem_of_getElem? (i := 60) rfl))) (ty := .object "com/example/arenabuddy/arenabuddy/chunk/SlotRun") (by decide +kernel)) (D13 (Or.inl (hw _ (List.mem_of_getElem? (i := 62) rfl))) (ty := .object "java/nio/ByteBuffer") (by decide +kernel)) (D13 (Or.inl (hw _ (List.mem_of_getElem? (i := 64) rfl))) (ty := .object "com/example/arenabuddy/arenabuddy/Lease") (by decide +kernel))) pd_0 rfl (hb hby at_77) rfl (by rw [hml]; rfl) (by decide) 1 (Nat.le_of_eq rfl) (by decide) (by decide) (by decide) ?_
  intro T14 h14 v14 L14 X14 e14 Q14
  obtain ⟨rfl, N14, K14, l14⟩ := Q14
  have q14 : ∀ y, y < h12.size → y ∉ [a13] := fun y hy => ninS (Nat.ne_of_lt (by omega)) nin0
  have lo14 := own_elt S12.1
  have lr14 := R12.1.lt
  have S14 := (S12.ext E13).keep K14 (q14 _ (own_elt S12.1))
  have R14 := (show Ro Z h13 r _ from R12.keep ((Keep.refl _ []).ext E13) nin0).keep K14 (q14 _ R12.1.lt)
  have la14 := own_elt l14.1
  have zz14 : h12.size ≤ h13.size := E13.1
  have zy14 : h13.size ≤ h14.size := K14.1
  refine g_astore (n := 82) X14 hx (hb hby at_80) rfl rfl #[.val (.int p1), .val (.int f1), .val (.int f2), .val (.int f3), .val (.int f4), .val (.int f5), .val (.ref a11), .val (.ref a13), .unset, .unset, .unset, .unset] rfl ?_
  refine g_new (n := 85) X14 hx hZ hown (hw _ (List.mem_of_getElem? (i := 13) rfl)) (hw _ (List.mem_of_getElem? (i := 14) rfl)) (hw _ (List.mem_of_getElem? (i := 15) rfl)) e14 (hb hby at_82) rfl (by decide) (by decide) ?_
  intro T15 h15 a15 X15 e15 z15 E15 K15 D15
  refine g_dup (n := 86) X15 hx (hb hby at_85) rfl rfl ?_
  refine g_callI (n := 89) (st := [(.ref a15)]) X15 hx hZ hown e15 rfl (hw _ (List.mem_of_getElem? (i := 16) rfl)) (hw _ (List.mem_of_getElem? (i := 17) rfl)) (hw _ (List.mem_of_getElem? (i := 15) rfl)) (hw _ (List.mem_of_getElem? (i := 18) rfl)) (by decide) a15 [] (rm3 l Z a0 hw a15 h0.size h15 (by omega) K15 (D15 (Or.inl (hw _ (List.mem_of_getElem? (i := 21) rfl))) (ty := .int) (by decide +kernel)) (D15 (Or.inl (hw _ (List.mem_of_getElem? (i := 23) rfl))) (ty := .int) (by decide +kernel)) (D15 (Or.inl (hw _ (List.mem_of_getElem? (i := 56) rfl))) (ty := .object "com/example/arenabuddy/arenabuddy/ThreadCache") (by decide +kernel)) (D15 (Or.inl (hw _ (List.mem_of_getElem? (i := 58) rfl))) (ty := .object "com/example/arenabuddy/arenabuddy/chunk/Chunk") (by decide +kernel)) (D15 (Or.inl (hw _ (List.mem_of_getElem? (i := 60) rfl))) (ty := .object "com/example/arenabuddy/arenabuddy/chunk/SlotRun") (by decide +kernel)) (D15 (Or.inl (hw _ (List.mem_of_getElem? (i := 62) rfl))) (ty := .object "java/nio/ByteBuffer") (by decide +kernel)) (D15 (Or.inl (hw _ (List.mem_of_getElem? (i := 64) rfl))) (ty := .object "com/example/arenabuddy/arenabuddy/Lease") (by decide +kernel))) pd_0 rfl (hb hby at_86) rfl (by rw [hml]; rfl) (by decide) 1 (Nat.le_of_eq rfl) (by decide) (by decide) (by decide) ?_
  intro T16 h16 v16 L16 X16 e16 Q16
  obtain ⟨rfl, N16, K16, l16⟩ := Q16
  have q16 : ∀ y, y < h14.size → y ∉ [a15] := fun y hy => ninS (Nat.ne_of_lt (by omega)) nin0
  have lo16 := own_elt S14.1
  have lr16 := R14.1.lt
  have S16 := (S14.ext E15).keep K16 (q16 _ (own_elt S14.1))
  have R16 := (show Ro Z h15 r _ from R14.keep ((Keep.refl _ []).ext E15) nin0).keep K16 (q16 _ R14.1.lt)
  have l14_16 := (l14.ext E15).keep K16 (q16 _ (own_elt l14.1))
  have la16 := own_elt l16.1
  have zz16 : h14.size ≤ h15.size := E15.1
  have zy16 : h15.size ≤ h16.size := K16.1
  refine g_astore (n := 91) X16 hx (hb hby at_89) rfl rfl #[.val (.int p1), .val (.int f1), .val (.int f2), .val (.int f3), .val (.int f4), .val (.int f5), .val (.ref a11), .val (.ref a13), .val (.ref a15), .unset, .unset, .unset] rfl ?_
  refine g_new (n := 94) X16 hx hZ hown (hw _ (List.mem_of_getElem? (i := 13) rfl)) (hw _ (List.mem_of_getElem? (i := 14) rfl)) (hw _ (List.mem_of_getElem? (i := 15) rfl)) e16 (hb hby at_91) rfl (by decide) (by decide) ?_
  intro T17 h17 a17 X17 e17 z17 E17 K17 D17
  refine g_dup (n := 95) X17 hx (hb hby at_94) rfl rfl ?_
  refine g_callI (n := 98) (st := [(.ref a17)]) X17 hx hZ hown e17 rfl (hw _ (List.mem_of_getElem? (i := 16) rfl)) (hw _ (List.mem_of_getElem? (i := 17) rfl)) (hw _ (List.mem_of_getElem? (i := 15) rfl)) (hw _ (List.mem_of_getElem? (i := 18) rfl)) (by decide) a17 [] (rm3 l Z a0 hw a17 h0.size h17 (by omega) K17 (D17 (Or.inl (hw _ (List.mem_of_getElem? (i := 21) rfl))) (ty := .int) (by decide +kernel)) (D17 (Or.inl (hw _ (List.mem_of_getElem? (i := 23) rfl))) (ty := .int) (by decide +kernel)) (D17 (Or.inl (hw _ (List.mem_of_getElem? (i := 56) rfl))) (ty := .object "com/example/arenabuddy/arenabuddy/ThreadCache") (by decide +kernel)) (D17 (Or.inl (hw _ (List.mem_of_getElem? (i := 58) rfl))) (ty := .object "com/example/arenabuddy/arenabuddy/chunk/Chunk") (by decide +kernel)) (D17 (Or.inl (hw _ (List.mem_of_getElem? (i := 60) rfl))) (ty := .object "com/example/arenabuddy/arenabuddy/chunk/SlotRun") (by decide +kernel)) (D17 (Or.inl (hw _ (List.mem_of_getElem? (i := 62) rfl))) (ty := .object "java/nio/ByteBuffer") (by decide +kernel)) (D17 (Or.inl (hw _ (List.mem_of_getElem? (i := 64) rfl))) (ty := .object "com/example/arenabuddy/arenabuddy/Lease") (by decide +kernel))) pd_0 rfl (hb hby at_95) rfl (by rw [hml]; rfl) (by decide) 1 (Nat.le_of_eq rfl) (by decide) (by decide) (by decide) ?_
  intro T18 h18 v18 L18 X18 e18 Q18
  obtain ⟨rfl, N18, K18, l18⟩ := Q18
  have q18 : ∀ y, y < h16.size → y ∉ [a17] := fun y hy => ninS (Nat.ne_of_lt (by omega)) nin0
  have lo18 := own_elt S16.1
  have lr18 := R16.1.lt
  have S18 := (S16.ext E17).keep K18 (q18 _ (own_elt S16.1))
  have R18 := (show Ro Z h17 r _ from R16.keep ((Keep.refl _ []).ext E17) nin0).keep K18 (q18 _ R16.1.lt)
  have l14_16_18 := (l14_16.ext E17).keep K18 (q18 _ (own_elt l14_16.1))
  have l16_18 := (l16.ext E17).keep K18 (q18 _ (own_elt l16.1))
  have la18 := own_elt l18.1
  have zz18 : h16.size ≤ h17.size := E17.1
  have zy18 : h17.size ≤ h18.size := K18.1
  refine g_astore (n := 100) X18 hx (hb hby at_98) rfl rfl #[.val (.int p1), .val (.int f1), .val (.int f2), .val (.int f3), .val (.int f4), .val (.int f5), .val (.ref a11), .val (.ref a13), .val (.ref a15), .val (.ref a17), .unset, .unset] rfl ?_
  have d01 : a13 ≠ a15 := by have := own_elt l14_16_18.1; omega
  have d0x : a13 ≠ a17 := by omega
  have d1x : a15 ≠ a17 := by omega
  have do0 : a11 ≠ a13 := by omega
  have do1 : a11 ≠ a15 := by omega
  have dox : a11 ≠ a17 := by omega
  have dro : r ≠ a11 := by omega
  have dr0 : r ≠ a13 := by omega
  have dr1 : r ≠ a15 := by omega
  have drx : r ≠ a17 := by omega
  have go : h0.size ≤ a11 := by omega
  have g0 : h0.size ≤ a13 := by omega
  have g1 : h0.size ≤ a15 := by omega
  have gx : h0.size ≤ a17 := by omega
  have gr' : h0.size ≤ r := by omega
  have J131 : ∀ (T : State) (h : Heap) (L : List Loc) (ct few : Int32), Stand p l e room_1 s m #[.int p1] below meth c T L 5 50 → T.heap = h → Fr h0.size L → Sr Z h a11 r ct few → Exa Z h a13 "com/example/arenabuddy/arenabuddy/LeaseMemory" → Exa Z h a15 "com/example/arenabuddy/arenabuddy/LeaseMemory" → Lm Z h a17 → Go p e below (Fe s room_1.cells room_1.slots) (fun v h L => v = some (.int 1) ∧ Fr h0.size L) T (mkF m 131 #[.val (.int p1), .val (.int f1), .val (.int f2), .val (.int f3), .val (.int f4), .val (.int f5), .val (.ref a11), .val (.ref a13), .val (.ref a15), .val (.ref a17), .unset, .unset] []) := by
    intro T h L ct few X e1 NL S E0 E1 lx
    refine g_aload (n := 133) X hx (hb hby at_131) rfl rfl rfl ?_
    refine g_callV (n := 136) (st := []) X hx hZ hown e1 (hw _ (List.mem_of_getElem? (i := 24) rfl)) (hw _ (List.mem_of_getElem? (i := 25) rfl)) (notFace_of_selects (args := #[]) (mvT hZ (hw _ (List.mem_of_getElem? (i := 27) rfl)))) (hw _ (List.mem_of_getElem? (i := 27) rfl)) (hw _ (List.mem_of_getElem? (i := 26) rfl)) (hw _ (List.mem_of_getElem? (i := 2) rfl)) (hw _ (List.mem_of_getElem? (i := 28) rfl)) (by decide) a11 S.1 [] (rm4 l Z a0 hw a11 r ct few h0.size h go S) pd_0 rfl (hb hby at_133) rfl (by rw [hml]; rfl) (by decide) 0 (Nat.le_of_eq rfl) (by decide) (by decide) (by decide) ?_
    intro T19 h19 v19 L19 X19 e19 Q19
    obtain ⟨rfl, N19, K19, r', gr19, S19, R19⟩ := Q19
    have lo19 := own_elt S.1
    have lx19 := own_elt lx.1
    have la19 := own_elt E0
    have lb19 := own_elt E1
    have kz19 := K19.1
    have er19 := R19.1.lt
    have lx' := lx.keep K19 (ninS (Ne.symm dox) nin0)
    have dro' : r' ≠ a11 := by omega
    have drx' : r' ≠ a17 := by omega
    have gr'' : h0.size ≤ r' := by omega
    have J158A : ∀ (T : State) (h2 : Heap) (L : List Loc) (few : Int32) (f : Nat → Value), f4 ≠ 0 → Stand p l e room_1 s m #[.int p1] below meth c T L 6 66 → T.heap = h2 → Fr h0.size L → h19.size ≤ h2.size → Sr Z h2 a11 r' 1 few → Ro Z h2 r' f → f 0 = .ref a17 → Go p e below (Fe s room_1.cells room_1.slots) (fun v h L => v = some (.int 1) ∧ Fr h0.size L) T (mkF m 158 #[.val (.int p1), .val (.int f1), .val (.int f2), .val (.int f3), .val (.int f4), .val (.int f5), .val (.ref a11), .val (.ref a13), .val (.ref a15), .val (.ref a17), .unset, .unset] []) := by
      intro T h2 L few f hf4 X e1 NL hz S R hf0
      have zo := own_elt S.1
      refine g_aload (n := 160) X hx (hb hby at_158) rfl rfl rfl ?_
      refine g_callV (n := 163) (st := []) X hx hZ hown e1 (hw _ (List.mem_of_getElem? (i := 35) rfl)) (hw _ (List.mem_of_getElem? (i := 36) rfl)) (notFace_of_selects (args := #[]) (mvT hZ (hw _ (List.mem_of_getElem? (i := 38) rfl)))) (hw _ (List.mem_of_getElem? (i := 38) rfl)) (hw _ (List.mem_of_getElem? (i := 37) rfl)) (hw _ (List.mem_of_getElem? (i := 2) rfl)) (hw _ (List.mem_of_getElem? (i := 39) rfl)) (by decide) a11 S.1 [] (rm5b l Z a0 hw a11 r' a17 few f h0.size h2 go gr'' dro' S R hf0) pd_4 rfl (hb hby at_160) rfl (by rw [hml]; rfl) (by decide) 0 (Nat.le_of_eq rfl) (by decide) (by decide) (by decide) ?_
      intro T20 h20 v20 L20 X20 e20 Q20
      obtain ⟨rfl, N20, K20, few', S20⟩ := Q20
      refine g_astore (n := 165) X20 hx (hb hby at_163) rfl rfl #[.val (.int p1), .val (.int f1), .val (.int f2), .val (.int f3), .val (.int f4), .val (.int f5), .val (.ref a11), .val (.ref a13), .val (.ref a15), .val (.ref a17), .val (.ref a17), .unset] rfl ?_
      refine g_iload (n := 167) X20 hx (hb hby at_165) rfl rfl ?_
      refine g_if (n := 198) (n' := 170) X20 hx _ (own_zeq _) (hb hby at_167) (by decide) (by decide) rfl (fun hc => absurd hc hf4) (fun _ => ?_)
      refine g_aload (n := 172) X20 hx (hb hby at_170) rfl rfl rfl ?_
      refine g_aload (n := 174) X20 hx (hb hby at_172) rfl rfl rfl ?_
      refine g_acmp (n := 179) (n' := 177) X20 hx _ (own_aeq _ _) rfl rfl (hb hby at_174) (by decide) (by decide) rfl (fun _ => ?_) (fun hc => absurd rfl hc)
      refine g_aload (n := 181) X20 hx (hb hby at_179) rfl rfl rfl ?_
      have zk := K20.1
      refine g_callV (n := 184) (st := []) X20 hx hZ hown e20 (hw _ (List.mem_of_getElem? (i := 35) rfl)) (hw _ (List.mem_of_getElem? (i := 36) rfl)) (notFace_of_selects (args := #[]) (mvT hZ (hw _ (List.mem_of_getElem? (i := 38) rfl)))) (hw _ (List.mem_of_getElem? (i := 38) rfl)) (hw _ (List.mem_of_getElem? (i := 37) rfl)) (hw _ (List.mem_of_getElem? (i := 2) rfl)) (hw _ (List.mem_of_getElem? (i := 39) rfl)) (by decide) a11 S20.1 [] (rm5 l Z a0 hw a11 r' few' h0.size h20 (by omega) S20) pd_4 rfl (hb hby at_181) rfl (by rw [hml]; rfl) (by decide) 0 (Nat.le_of_eq rfl) (by decide) (by decide) (by decide) ?_
      intro T21 h21 v21 L21 X21 e21 Q21
      obtain ⟨t, rfl, gt, N21⟩ := Q21
      refine g_astore (n := 186) X21 hx (hb hby at_184) rfl rfl #[.val (.int p1), .val (.int f1), .val (.int f2), .val (.int f3), .val (.int f4), .val (.int f5), .val (.ref a11), .val (.ref a13), .val (.ref a15), .val (.ref a17), .val (.ref a17), .val (.ref t)] rfl ?_
      refine g_aload (n := 188) X21 hx (hb hby at_186) rfl rfl rfl ?_
      refine g_aload (n := 190) X21 hx (hb hby at_188) rfl rfl rfl ?_
      refine g_aload (n := 192) X21 hx (hb hby at_190) rfl rfl rfl ?_
      refine g_aload (n := 194) X21 hx (hb hby at_192) rfl rfl rfl ?_
      refine g_callSP (n := 197) (st := []) X21 hx hZ hown e21 (hw _ (List.mem_of_getElem? (i := 41) rfl)) (hw _ (List.mem_of_getElem? (i := 42) rfl)) (hw _ (List.mem_of_getElem? (i := 43) rfl)) (hw _ (List.mem_of_getElem? (i := 44) rfl)) (by decide) [.ref t, .ref a13, .ref a15, .ref a17] (rm6 l Z a0 hw t a13 a15 a17 h21 (by omega) (by omega) (by omega)) pd_5 rfl (hb hby at_194) rfl (by rw [hml]; rfl) (by decide) 0 (Nat.le_of_eq rfl) (by decide) (by decide) (by decide) ?_
      intro T22 X22 e22
      refine g_retZ X22 hx (by decide) hret hlk (hb hby at_197) (Fe.of (by decide) (by decide)) ?_
      try rw [e22]
      exact ⟨rfl, (Fr.app (Fr.app NL N20) N21)⟩
    have J158B : ∀ (T : State) (h2 : Heap) (L : List Loc) (few : Int32) (f : Nat → Value), f4 = 0 → Stand p l e room_1 s m #[.int p1] below meth c T L 6 66 → T.heap = h2 → Fr h0.size L → h19.size ≤ h2.size → Sr Z h2 a11 r' 0 few → Go p e below (Fe s room_1.cells room_1.slots) (fun v h L => v = some (.int 1) ∧ Fr h0.size L) T (mkF m 158 #[.val (.int p1), .val (.int f1), .val (.int f2), .val (.int f3), .val (.int f4), .val (.int f5), .val (.ref a11), .val (.ref a13), .val (.ref a15), .val (.ref a17), .unset, .unset] []) := by
      intro T h2 L few f hf4 X e1 NL hz S
      have zo := own_elt S.1
      refine g_aload (n := 160) X hx (hb hby at_158) rfl rfl rfl ?_
      refine g_callV (n := 163) (st := []) X hx hZ hown e1 (hw _ (List.mem_of_getElem? (i := 35) rfl)) (hw _ (List.mem_of_getElem? (i := 36) rfl)) (notFace_of_selects (args := #[]) (mvT hZ (hw _ (List.mem_of_getElem? (i := 38) rfl)))) (hw _ (List.mem_of_getElem? (i := 38) rfl)) (hw _ (List.mem_of_getElem? (i := 37) rfl)) (hw _ (List.mem_of_getElem? (i := 2) rfl)) (hw _ (List.mem_of_getElem? (i := 39) rfl)) (by decide) a11 S.1 [] (rm5 l Z a0 hw a11 r' few h0.size h2 (by omega) S) pd_4 rfl (hb hby at_160) rfl (by rw [hml]; rfl) (by decide) 0 (Nat.le_of_eq rfl) (by decide) (by decide) (by decide) ?_
      intro T23 h23 v23 L23 X23 e23 Q23
      obtain ⟨t, rfl, gt, N23⟩ := Q23
      refine g_astore (n := 165) X23 hx (hb hby at_163) rfl rfl #[.val (.int p1), .val (.int f1), .val (.int f2), .val (.int f3), .val (.int f4), .val (.int f5), .val (.ref a11), .val (.ref a13), .val (.ref a15), .val (.ref a17), .val (.ref t), .unset] rfl ?_
      refine g_iload (n := 167) X23 hx (hb hby at_165) rfl rfl ?_
      refine g_if (n := 198) (n' := 170) X23 hx _ (own_zeq _) (hb hby at_167) (by decide) (by decide) rfl (fun _ => ?_) (fun hc => absurd hf4 hc)
      refine g_aload (n := 200) X23 hx (hb hby at_198) rfl rfl rfl ?_
      refine g_aload (n := 202) X23 hx (hb hby at_200) rfl rfl rfl ?_
      refine g_aload (n := 204) X23 hx (hb hby at_202) rfl rfl rfl ?_
      refine g_aload (n := 206) X23 hx (hb hby at_204) rfl rfl rfl ?_
      refine g_callSP (n := 209) (st := []) X23 hx hZ hown e23 (hw _ (List.mem_of_getElem? (i := 41) rfl)) (hw _ (List.mem_of_getElem? (i := 42) rfl)) (hw _ (List.mem_of_getElem? (i := 43) rfl)) (hw _ (List.mem_of_getElem? (i := 44) rfl)) (by decide) [.ref t, .ref a13, .ref a15, .ref a17] (rm6 l Z a0 hw t a13 a15 a17 h23 (by omega) (by omega) (by omega)) pd_5 rfl (hb hby at_206) rfl (by rw [hml]; rfl) (by decide) 0 (Nat.le_of_eq rfl) (by decide) (by decide) (by decide) ?_
      intro T24 X24 e24
      refine g_retZ X24 hx (by decide) hret hlk (hb hby at_209) (Fe.of (by decide) (by decide)) ?_
      try rw [e24]
      exact ⟨rfl, (Fr.app NL N23)⟩
    refine g_iload (n := 138) X19 hx (hb hby at_136) rfl rfl ?_
    refine g_if (n := 148) (n' := 141) X19 hx _ (own_zeq _) (hb hby at_138) (by decide) (by decide) rfl (fun hb4 => ?_) (fun hb4 => ?_)
    · refine g_iload (n := 150) X19 hx (hb hby at_148) rfl rfl ?_
      refine g_if (n := 158) (n' := 153) X19 hx _ (own_zeq _) (hb hby at_150) (by decide) (by decide) rfl (fun hb5 => ?_) (fun hb5 => ?_)
      · exact J158B _ _ _ 0 (fun _ => .null) hb4 X19 e19 (Fr.app NL N19) (Nat.le_refl _) S19
      · refine g_aload (n := 155) X19 hx (hb hby at_153) rfl rfl rfl ?_
        refine g_callV (n := 158) (st := []) X19 hx hZ hown e19 (hw _ (List.mem_of_getElem? (i := 70) rfl)) (hw _ (List.mem_of_getElem? (i := 71) rfl)) (notFace_of_selects (args := #[]) (mvT hZ (hw _ (List.mem_of_getElem? (i := 73) rfl)))) (hw _ (List.mem_of_getElem? (i := 73) rfl)) (hw _ (List.mem_of_getElem? (i := 72) rfl)) (hw _ (List.mem_of_getElem? (i := 2) rfl)) (hw _ (List.mem_of_getElem? (i := 74) rfl)) (by decide) a11 S19.1 [] (rm10 l Z a0 hw a11 r' 0 _ h0.size h19 go gr'' dro' (by decide) S19 R19) pd_0 rfl (hb hby at_155) rfl (by rw [hml]; rfl) (by decide) 0 (Nat.le_of_eq rfl) (by decide) (by decide) (by decide) ?_
        intro T27 h27 v27 L27 X27 e27 Q27
        obtain ⟨rfl, N27, K27, S27, R27⟩ := Q27
        have zk27 := K27.1
        exact J158B _ _ _ _ (fun _ => .null) hb4 X27 e27 (Fr.app (Fr.app NL N19) N27) (by omega) S27
    · refine g_aload (n := 143) X19 hx (hb hby at_141) rfl rfl rfl ?_
      refine g_aload (n := 145) X19 hx (hb hby at_143) rfl rfl rfl ?_
      refine g_callV (n := 148) (st := []) X19 hx hZ hown e19 (hw _ (List.mem_of_getElem? (i := 45) rfl)) (hw _ (List.mem_of_getElem? (i := 46) rfl)) (notFace_of_selects (args := #[]) (mvT hZ (hw _ (List.mem_of_getElem? (i := 48) rfl)))) (hw _ (List.mem_of_getElem? (i := 48) rfl)) (hw _ (List.mem_of_getElem? (i := 47) rfl)) (hw _ (List.mem_of_getElem? (i := 2) rfl)) (hw _ (List.mem_of_getElem? (i := 49) rfl)) (by decide) a11 S19.1 [.ref a17] (rm7 l Z a0 hw a11 a17 r' 0 0 (fun _ => .null) h0.size h19 go gx gr'' dox dro' drx' (by decide) S19 R19 lx') pd_6 rfl (hb hby at_145) rfl (by rw [hml]; rfl) (by decide) 0 (Nat.le_of_eq rfl) (by decide) (by decide) (by decide) ?_
      intro T25 h25 v25 L25 X25 e25 Q25
      obtain ⟨rfl, N25, K25, S25, R25⟩ := Q25
      have zk25 := K25.1
      refine g_iload (n := 150) X25 hx (hb hby at_148) rfl rfl ?_
      refine g_if (n := 158) (n' := 153) X25 hx _ (own_zeq _) (hb hby at_150) (by decide) (by decide) rfl (fun hb5 => ?_) (fun hb5 => ?_)
      · exact J158A _ _ _ 0 _ hb4 X25 e25 (Fr.app (Fr.app NL N19) N25) zk25 S25 R25 rfl
      · refine g_aload (n := 155) X25 hx (hb hby at_153) rfl rfl rfl ?_
        refine g_callV (n := 158) (st := []) X25 hx hZ hown e25 (hw _ (List.mem_of_getElem? (i := 70) rfl)) (hw _ (List.mem_of_getElem? (i := 71) rfl)) (notFace_of_selects (args := #[]) (mvT hZ (hw _ (List.mem_of_getElem? (i := 73) rfl)))) (hw _ (List.mem_of_getElem? (i := 73) rfl)) (hw _ (List.mem_of_getElem? (i := 72) rfl)) (hw _ (List.mem_of_getElem? (i := 2) rfl)) (hw _ (List.mem_of_getElem? (i := 74) rfl)) (by decide) a11 S25.1 [] (rm10 l Z a0 hw a11 r' 1 _ h0.size h25 go gr'' dro' (by decide) S25 R25) pd_0 rfl (hb hby at_155) rfl (by rw [hml]; rfl) (by decide) 0 (Nat.le_of_eq rfl) (by decide) (by decide) (by decide) ?_
        intro T26 h26 v26 L26 X26 e26 Q26
        obtain ⟨rfl, N26, K26, S26, R26⟩ := Q26
        have zk26 := K26.1
        exact J158A _ _ _ _ _ hb4 X26 e26 (Fr.app (Fr.app (Fr.app NL N19) N25) N26) (by omega) S26 R26 rfl
  have J122 : ∀ (T : State) (h : Heap) (L : List Loc) (ct : Nat) (f : Nat → Value), ct ≤ 2 → Stand p l e room_1 s m #[.int p1] below meth c T L 5 50 → T.heap = h → Fr h0.size L → Sr Z h a11 r (Int32.ofNat ct) 0 → Ro Z h r f → Exa Z h a13 "com/example/arenabuddy/arenabuddy/LeaseMemory" → Exa Z h a15 "com/example/arenabuddy/arenabuddy/LeaseMemory" → Lm Z h a17 → Go p e below (Fe s room_1.cells room_1.slots) (fun v h L => v = some (.int 1) ∧ Fr h0.size L) T (mkF m 122 #[.val (.int p1), .val (.int f1), .val (.int f2), .val (.int f3), .val (.int f4), .val (.int f5), .val (.ref a11), .val (.ref a13), .val (.ref a15), .val (.ref a17), .unset, .unset] []) := by
    intro T h L ct f hc2 X e1 NL S R E0 E1 lx
    refine g_iloadN (n := 123) X hx (hb hby at_122) rfl rfl ?_
    refine g_if (n := 131) (n' := 126) X hx _ (own_zeq _) (hb hby at_123) (by decide) (by decide) rfl (fun hb3 => ?_) (fun hb3 => ?_)
    · exact J131 T h L _ _ X e1 NL S E0 E1 lx
    · refine g_aload (n := 128) X hx (hb hby at_126) rfl rfl rfl ?_
      refine g_callV (n := 131) (st := []) X hx hZ hown e1 (hw _ (List.mem_of_getElem? (i := 70) rfl)) (hw _ (List.mem_of_getElem? (i := 71) rfl)) (notFace_of_selects (args := #[]) (mvT hZ (hw _ (List.mem_of_getElem? (i := 73) rfl)))) (hw _ (List.mem_of_getElem? (i := 73) rfl)) (hw _ (List.mem_of_getElem? (i := 72) rfl)) (hw _ (List.mem_of_getElem? (i := 2) rfl)) (hw _ (List.mem_of_getElem? (i := 74) rfl)) (by decide) a11 S.1 [] (rm10 l Z a0 hw a11 r ct f h0.size h go gr' dro (by omega) S R) pd_0 rfl (hb hby at_128) rfl (by rw [hml]; rfl) (by decide) 0 (Nat.le_of_eq rfl) (by decide) (by decide) (by decide) ?_
      intro T28 h28 v28 L28 X28 e28 Q28
      obtain ⟨rfl, N28, K28, S28, R28⟩ := Q28
      exact J131 _ _ _ _ _ X28 e28 (Fr.app NL N28) S28 (E0.keep K28) (E1.keep K28) (lx.keep K28 (ninS (Ne.symm dox) (ninS (Ne.symm drx) nin0)))
  have J111 : ∀ (T : State) (h : Heap) (L : List Loc) (ct : Nat) (f : Nat → Value), ct ≤ 1 → Stand p l e room_1 s m #[.int p1] below meth c T L 5 50 → T.heap = h → Fr h0.size L → Sr Z h a11 r (Int32.ofNat ct) 0 → Ro Z h r f → Exa Z h a13 "com/example/arenabuddy/arenabuddy/LeaseMemory" → Lm Z h a15 → Lm Z h a17 → Go p e below (Fe s room_1.cells room_1.slots) (fun v h L => v = some (.int 1) ∧ Fr h0.size L) T (mkF m 111 #[.val (.int p1), .val (.int f1), .val (.int f2), .val (.int f3), .val (.int f4), .val (.int f5), .val (.ref a11), .val (.ref a13), .val (.ref a15), .val (.ref a17), .unset, .unset] []) := by
    intro T h L ct f hc1 X e1 NL S R E0 l1 lx
    refine g_iloadN (n := 112) X hx (hb hby at_111) rfl rfl ?_
    refine g_if (n := 122) (n' := 115) X hx _ (own_zeq _) (hb hby at_112) (by decide) (by decide) rfl (fun hb2 => ?_) (fun hb2 => ?_)
    · exact J122 T h L ct f (by omega) X e1 NL S R E0 l1.1 lx
    · refine g_aload (n := 117) X hx (hb hby at_115) rfl rfl rfl ?_
      refine g_aload (n := 119) X hx (hb hby at_117) rfl rfl rfl ?_
      refine g_callV (n := 122) (st := []) X hx hZ hown e1 (hw _ (List.mem_of_getElem? (i := 45) rfl)) (hw _ (List.mem_of_getElem? (i := 46) rfl)) (notFace_of_selects (args := #[]) (mvT hZ (hw _ (List.mem_of_getElem? (i := 48) rfl)))) (hw _ (List.mem_of_getElem? (i := 48) rfl)) (hw _ (List.mem_of_getElem? (i := 47) rfl)) (hw _ (List.mem_of_getElem? (i := 2) rfl)) (hw _ (List.mem_of_getElem? (i := 49) rfl)) (by decide) a11 S.1 [.ref a15] (rm7 l Z a0 hw a11 a15 r ct 0 f h0.size h go g1 gr' do1 dro dr1 (by omega) S R l1) pd_6 rfl (hb hby at_119) rfl (by rw [hml]; rfl) (by decide) 0 (Nat.le_of_eq rfl) (by decide) (by decide) (by decide) ?_
      intro T29 h29 v29 L29 X29 e29 Q29
      obtain ⟨rfl, N29, K29, S29, R29⟩ := Q29
      exact J122 _ _ _ _ _ (by omega) X29 e29 (Fr.app NL N29) S29 R29 (E0.keep K29) (l1.1.keep K29) (lx.keep K29 (ninS (Ne.symm d1x) (ninS (Ne.symm dox) (ninS (Ne.symm drx) nin0))))
  refine g_iloadN (n := 101) X18 hx (hb hby at_100) rfl rfl ?_
  refine g_if (n := 111) (n' := 104) X18 hx _ (own_zeq _) (hb hby at_101) (by decide) (by decide) rfl (fun hb1 => ?_) (fun hb1 => ?_)
  · exact J111 _ _ _ 0 _ (by omega) X18 e18 (Fr.app (Fr.app (Fr.app (Fr.app (Fr.nil h0.size) N12) N14) N16) N18) S18 R18 l14_16_18.1 l16_18 l18
  · refine g_aload (n := 106) X18 hx (hb hby at_104) rfl rfl rfl ?_
    refine g_aload (n := 108) X18 hx (hb hby at_106) rfl rfl rfl ?_
    refine g_callV (n := 111) (st := []) X18 hx hZ hown e18 (hw _ (List.mem_of_getElem? (i := 45) rfl)) (hw _ (List.mem_of_getElem? (i := 46) rfl)) (notFace_of_selects (args := #[]) (mvT hZ (hw _ (List.mem_of_getElem? (i := 48) rfl)))) (hw _ (List.mem_of_getElem? (i := 48) rfl)) (hw _ (List.mem_of_getElem? (i := 47) rfl)) (hw _ (List.mem_of_getElem? (i := 2) rfl)) (hw _ (List.mem_of_getElem? (i := 49) rfl)) (by decide) a11 S18.1 [.ref a13] (rm7 l Z a0 hw a11 a13 r 0 0 _ h0.size h18 go g0 gr' do0 dro dr0 (by omega) S18 R18 l14_16_18) pd_6 rfl (hb hby at_108) rfl (by rw [hml]; rfl) (by decide) 0 (Nat.le_of_eq rfl) (by decide) (by decide) (by decide) ?_
    intro T30 h30 v30 L30 X30 e30 Q30
    obtain ⟨rfl, N30, K30, S30, R30⟩ := Q30
    exact J111 _ _ _ 1 _ (by omega) X30 e30 (Fr.app (Fr.app (Fr.app (Fr.app (Fr.app (Fr.nil h0.size) N12) N14) N16) N18) N30) S30 R30 (l14_16_18.1.keep K30) (l16_18.keep K30 (ninS (Ne.symm d01) (ninS (Ne.symm do1) (ninS (Ne.symm dr1) nin0)))) (l18.keep K30 (ninS (Ne.symm d0x) (ninS (Ne.symm dox) (ninS (Ne.symm drx) nin0))))
set_option maxRecDepth 65536 in
set_option maxHeartbeats 40000000 in
theorem comes_1 {Post : Tables → Env → Array Value → State → Outcome → State → Prop} (hpost : ∀ tb e args s v u, (limb_1_1.after args s (.returned v) u = true ∧ limb_1_2.after args s (.returned v) u = true ∧ True) → FrameEnd s (.returned v) u (Jvm.fieldLocs frame_1_writes args s ++ Jvm.arrayLocs frame_1_arrays args s ++ Jvm.staticLocs frame_1_statics s) 24 256 → Post tb e args s (.returned v) u) :
    ArmFor flags0 classFile x code maxLocals ret World_1 tables_1 room_1 Calls_1 rest_1 Pre_1 Post := by
  intro l hfl _ _ p e ha hc hk s m args below hf hA hF happ hP
  obtain ⟨hcalls, hrest, hpre⟩ := hP
  obtain ⟨-, -, -, hnamed, -, -, -, hat⟩ := (Spec.applies_iff hf).mp happ
  obtain ⟨hg, hn⟩ := and_e (Cond.before_iff.mp (show (Jvm.Cond.and given_1 narrow_1).before args s = true from hpre))
  obtain ⟨h1, hg1⟩ := and_e hg
  obtain ⟨w0, rfl⟩ : ∃ w0 : Value, args = #[w0] := by
    have hs : args.size = 1 := by simpa [Cond.value, given_1] using h1
    obtain ⟨L⟩ := args
    match L, hs with
    | [w0], _ => exact ⟨w0, rfl⟩
  have hw := fun d (hd : d ∈ tables_1) => atoms_spec (ws := Jvm.Cond.code x code maxLocals ret :: tables_1) hat d (List.mem_cons_of_mem _ hd)
  have hfit : Fit s := fun {y c} hc i hi => by
    obtain ⟨ha, rfl⟩ := Array.getElem?_eq_some_iff.mp hc
    have q := List.all_eq_true.mp ((Array.all_eq_true_iff_forall_mem.mp hF) _ (Array.getElem_mem ha)) i (List.mem_range.mpr hi)
    simpa [Array.getElem?_eq_getElem hi] using q
  obtain ⟨i0, e0⟩ := is_v hg1
  obtain rfl : w0 = (.int i0) := Option.some.inj e0
  obtain ⟨n, o, h1, h2, h3, _, L, rfl, ⟨rfl, N⟩, hq⟩ := rm0 l s _ hw i0 s.heap  p e ha hc hk s m _ below hf ((Spec.applies_iff_loose hf).mp happ).1 ⟨rfl, State.Warmed39.refl s, rfl⟩ trivial
  refine ⟨n, _, h1, h2, h3, hpost _ _ _ _ _ _ ⟨Cond.after_iff.mpr rfl, Cond.after_iff.mpr (eq_i res_at (Term.int_eval (1)) rfl), trivial⟩ ⟨hq.1, hq.2.1, (hq.2.2.sift fun y hy => Or.inr (N y hy)).mono (by decide) (by decide)⟩⟩
theorem main_1_1 : Claimed_1_1 := comes_1 fun _ _ _ _ _ _ h hF => ⟨h.1, hF⟩
theorem main_1_2 : Claimed_1_2 := comes_1 fun _ _ _ _ _ _ h hF => ⟨h.2.1, hF⟩


end Jvm.Pilot.@@N@@
namespace Jvm.Pilot.@@N@@
open Jvm Jvm.ClassFile Sem Op Lib Jvm.Free Jvm.Stand Jvm.Pilot.@@N@@.Jvm.D
/-! MADE BY PROGRAM (witnessworld.py) out of the Statement's table words and the real class files: 14 classes; the members and pool entries that the words name. The judged class is class 1, her method 1. -/
namespace start1
open Jvm.ClassFile
def u (s : String) : CpInfo := .utf8 (stringToUtf16 s)
/-- a pool by its gaps: so many unusable entries, then the entry; so many at the end -/
def gap : Nat → List CpInfo → List CpInfo
  | 0, r => r
  | n + 1, r => .unusable :: gap n r
def poolList (es : List (Nat × CpInfo)) (last : Nat) : List CpInfo := es.foldr (fun e r => gap e.1 (e.2 :: r)) (gap last [])
def pool (es : List (Nat × CpInfo)) (last : Nat) : Array CpInfo := ⟨poolList es last⟩
def fileOf (pool : Array CpInfo) (this : Nat) (attrs : Array Attribute := #[]) (ms : Array MethodInfo := #[]) (fl : Nat := 33) (sup : Nat := 0) (ifs : Array Nat := #[]) (fds : Array FieldInfo := #[]) : ClassFile where
  minorVersion := 0
  majorVersion := 65
  constantPool := pool
  accessFlags := fl
  thisClass := this
  superClass := sup
  interfaces := ifs
  fields := fds
  methods := ms
  attributes := attrs
def plain (name : String) (sup : Option ClassId) : Class where
  name := name
  kind := .ordinary
  loader := none
  accessFlags := 33
  super := sup
  interfaces := #[]
  cf := none
  fields := #[]
  methods := #[]
  instanceTypes := #[]
  staticTypes := #[]
  resolved := #[]
  callSites := []
  init := .initialized
  statics := none
  mirror := none

def pool0 : Array CpInfo := pool [(5, u "<init>"), (0, u "()V"), (1, .class_ 10), (1, u "java/lang/Object")] 113

def k0c0 : Code := { maxStack := 0, maxLocals := 1, code := object_method_1_code, exceptionTable := #[], attributes := #[] }
def k0m0 : Method := { name := "<init>", desc := "()V", sig := { parameters := [], returnType := none }, accessFlags := 1, code := some k0c0 }
/-- java/lang/Object -/
def k0 : Class := { plain "java/lang/Object" none with
  accessFlags := 33
  interfaces := #[]
  cf := some (fileOf pool0 8 #[] #[{ accessFlags := 1, nameIndex := 5, descriptorIndex := 6, attributes := #[] }] 33 0 #[] #[])
  fields := #[]
  methods := #[k0m0]
  instanceTypes := #[]
  staticTypes := #[]
  resolved := Array.replicate 124 none
  statics := none }

def pool1 : Array CpInfo := pool [(2, .class_ 4), (0, .nameAndType 5 6), (0, u "java/lang/Object"), (0, u "<init>"), (0, u "()V"), (0, .class_ 8), (0, u "com/example/arenabuddy/arenabuddy/SpareRecords"), (0, .methodref 7 3), (0, .class_ 11), (0, u "com/example/arenabuddy/arenabuddy/LeaseMemory"), (0, .methodref 10 3), (0, .methodref 7 14), (0, .nameAndType 15 16), (0, u "keep"), (0, u "(Lcom/example/arenabuddy/arenabuddy/LeaseMemory;)V"), (0, .methodref 7 18), (0, .nameAndType 19 6), (0, u "sweep"), (0, .methodref 7 21), (0, .nameAndType 22 6), (0, u "dropAll"), (0, .methodref 7 24), (0, .nameAndType 25 26), (0, u "take"), (0, u "()Lcom/example/arenabuddy/arenabuddy/LeaseMemory;"), (0, .methodref 28 29), (0, .class_ 30), (0, .nameAndType 31 32), (0, u "com/example/arenabuddy/arenabuddy/SpareRecordsDropAllPinLaw"), (0, u "fresh"), (0, u "(Lcom/example/arenabuddy/arenabuddy/LeaseMemory;Lcom/example/arenabuddy/arenabuddy/LeaseMemory;Lcom/example/arenabuddy/arenabuddy/LeaseMemory;Lcom/example/arenabuddy/arenabuddy/LeaseMemory;)Z"), (2, u "law"), (0, u "(I)Z")] 3

def k1m0 : Method := { name := "<init>", desc := "()V", sig := { parameters := [], returnType := none }, accessFlags := 1, code := none }
def k1c1 : Code := { maxStack := 4, maxLocals := 12, code := code, exceptionTable := #[], attributes := #[] }
def k1m1 : Method := { name := "law", desc := "(I)Z", sig := { parameters := [.int], returnType := some .boolean }, accessFlags := 9, code := some k1c1 }
def k1c2 : Code := { maxStack := 2, maxLocals := 4, code := method_3_code, exceptionTable := #[], attributes := #[] }
def k1m2 : Method := { name := "fresh", desc := "(Lcom/example/arenabuddy/arenabuddy/LeaseMemory;Lcom/example/arenabuddy/arenabuddy/LeaseMemory;Lcom/example/arenabuddy/arenabuddy/LeaseMemory;Lcom/example/arenabuddy/arenabuddy/LeaseMemory;)Z", sig := { parameters := [(.object "com/example/arenabuddy/arenabuddy/LeaseMemory"), (.object "com/example/arenabuddy/arenabuddy/LeaseMemory"), (.object "com/example/arenabuddy/arenabuddy/LeaseMemory"), (.object "com/example/arenabuddy/arenabuddy/LeaseMemory")], returnType := some .boolean }, accessFlags := 10, code := some k1c2 }
/-- com/example/arenabuddy/arenabuddy/SpareRecordsDropAllPinLaw -/
def k1 : Class := { plain "com/example/arenabuddy/arenabuddy/SpareRecordsDropAllPinLaw" (some 0) with
  accessFlags := 49
  interfaces := #[]
  cf := some (fileOf pool1 28 #[] #[{ accessFlags := 1, nameIndex := 5, descriptorIndex := 6, attributes := #[] }, { accessFlags := 9, nameIndex := 35, descriptorIndex := 36, attributes := #[] }, { accessFlags := 10, nameIndex := 31, descriptorIndex := 32, attributes := #[] }] 49 2 #[] #[])
  fields := #[]
  methods := #[k1m0, k1m1, k1m2]
  instanceTypes := #[]
  staticTypes := #[]
  resolved := Array.replicate 40 none
  statics := none }

def pool2 : Array CpInfo := pool [(1, .methodref 2 3), (0, .class_ 4), (0, .nameAndType 5 6), (0, u "java/lang/Object"), (0, u "<init>"), (0, u "()V"), (0, .class_ 8), (0, u "com/example/arenabuddy/arenabuddy/SpareRecords"), (0, .class_ 10), (0, u "com/example/arenabuddy/arenabuddy/LeaseMemory"), (0, .fieldref 7 12), (0, .nameAndType 13 14), (0, u "records"), (0, u "[Lcom/example/arenabuddy/arenabuddy/LeaseMemory;"), (0, .fieldref 7 16), (0, .nameAndType 17 18), (0, u "count"), (0, u "I"), (0, .methodref 9 3), (0, .fieldref 7 21), (0, .nameAndType 22 18), (0, u "fewest"), (0, .methodref 24 25), (0, .class_ 26), (0, .nameAndType 27 28), (0, u "java/lang/Math"), (0, u "min"), (0, u "(II)I"), (0, .methodref 9 30), (0, .nameAndType 31 6), (0, u "clear"), (1, .class_ 35), (1, u "java/util/Arrays"), (3, .fieldref 7 40), (0, .nameAndType 41 18), (0, u "most"), (0, .methodref 24 43), (0, .nameAndType 44 28), (0, u "max"), (0, .methodref 46 47), (0, .class_ 48), (0, .nameAndType 49 50), (0, u "java/lang/System"), (0, u "arraycopy"), (0, u "(Ljava/lang/Object;ILjava/lang/Object;II)V"), (0, .methodref 33 52), (0, .nameAndType 53 54), (0, u "fill"), (0, u "([Ljava/lang/Object;IILjava/lang/Object;)V"), (0, u "INITIAL_CAPACITY"), (4, u "take"), (0, u "()Lcom/example/arenabuddy/arenabuddy/LeaseMemory;"), (1, u "keep"), (0, u "(Lcom/example/arenabuddy/arenabuddy/LeaseMemory;)V"), (0, u "sweep"), (0, u "dropAll")] 2

def k2c0 : Code := { maxStack := 2, maxLocals := 1, code := prog_12_method_1_code, exceptionTable := #[], attributes := #[] }
def k2m0 : Method := { name := "<init>", desc := "()V", sig := { parameters := [], returnType := none }, accessFlags := 0, code := some k2c0 }
def k2c1 : Code := { maxStack := 4, maxLocals := 2, code := prog_12_method_2_code, exceptionTable := #[], attributes := #[] }
def k2m1 : Method := { name := "take", desc := "()Lcom/example/arenabuddy/arenabuddy/LeaseMemory;", sig := { parameters := [], returnType := some (.object "com/example/arenabuddy/arenabuddy/LeaseMemory") }, accessFlags := 0, code := some k2c1 }
def k2c2 : Code := { maxStack := 5, maxLocals := 2, code := prog_12_method_3_code, exceptionTable := #[], attributes := #[] }
def k2m2 : Method := { name := "keep", desc := "(Lcom/example/arenabuddy/arenabuddy/LeaseMemory;)V", sig := { parameters := [(.object "com/example/arenabuddy/arenabuddy/LeaseMemory")], returnType := none }, accessFlags := 0, code := some k2c2 }
def k2c3 : Code := { maxStack := 5, maxLocals := 3, code := prog_12_method_4_code, exceptionTable := #[], attributes := #[] }
def k2m3 : Method := { name := "sweep", desc := "()V", sig := { parameters := [], returnType := none }, accessFlags := 0, code := some k2c3 }
def k2c4 : Code := { maxStack := 2, maxLocals := 1, code := prog_12_method_5_code, exceptionTable := #[], attributes := #[] }
def k2m4 : Method := { name := "dropAll", desc := "()V", sig := { parameters := [], returnType := none }, accessFlags := 0, code := some k2c4 }
/-- com/example/arenabuddy/arenabuddy/SpareRecords -/
def k2 : Class := { plain "com/example/arenabuddy/arenabuddy/SpareRecords" (some 0) with
  accessFlags := 48
  interfaces := #[]
  cf := some (fileOf pool2 7 #[] #[{ accessFlags := 0, nameIndex := 5, descriptorIndex := 6, attributes := #[] }, { accessFlags := 0, nameIndex := 60, descriptorIndex := 61, attributes := #[] }, { accessFlags := 0, nameIndex := 63, descriptorIndex := 64, attributes := #[] }, { accessFlags := 0, nameIndex := 65, descriptorIndex := 6, attributes := #[] }, { accessFlags := 0, nameIndex := 66, descriptorIndex := 6, attributes := #[] }] 48 2 #[] #[{ accessFlags := 26, nameIndex := 55, descriptorIndex := 18, attributes := #[] }, { accessFlags := 2, nameIndex := 13, descriptorIndex := 14, attributes := #[] }, { accessFlags := 2, nameIndex := 17, descriptorIndex := 18, attributes := #[] }, { accessFlags := 2, nameIndex := 22, descriptorIndex := 18, attributes := #[] }, { accessFlags := 2, nameIndex := 41, descriptorIndex := 18, attributes := #[] }])
  fields := #[{ name := "INITIAL_CAPACITY", type := .int, accessFlags := 26, slot := 0, constantValue := 0 }, { name := "records", type := (.array (.object "com/example/arenabuddy/arenabuddy/LeaseMemory")), accessFlags := 2, slot := 0, constantValue := 0 }, { name := "count", type := .int, accessFlags := 2, slot := 1, constantValue := 0 }, { name := "fewest", type := .int, accessFlags := 2, slot := 2, constantValue := 0 }, { name := "most", type := .int, accessFlags := 2, slot := 3, constantValue := 0 }]
  methods := #[k2m0, k2m1, k2m2, k2m3, k2m4]
  instanceTypes := #[(.array (.object "com/example/arenabuddy/arenabuddy/LeaseMemory")), .int, .int, .int]
  staticTypes := #[.int]
  resolved := Array.replicate 69 none
  statics := none }

def pool3 : Array CpInfo := pool [(1, .methodref 2 3), (0, .class_ 4), (0, .nameAndType 5 6), (0, u "java/lang/Object"), (0, u "<init>"), (0, u "()V"), (2, .fieldref 10 11), (0, .class_ 12), (0, .nameAndType 13 14), (0, u "com/example/arenabuddy/arenabuddy/LeaseMemory"), (0, u "cacheClass"), (0, u "I"), (0, .fieldref 10 16), (0, .nameAndType 17 14), (0, u "sweep"), (2, u "generation"), (0, u "J"), (2, u "GENERATION"), (0, u "Ljava/lang/invoke/VarHandle;"), (6, .fieldref 10 33), (0, .nameAndType 34 35), (0, u "reused"), (0, u "Lcom/example/arenabuddy/arenabuddy/Lease;"), (9, .fieldref 10 46), (0, .nameAndType 47 48), (0, u "view"), (0, u "Ljava/nio/ByteBuffer;"), (0, .fieldref 10 50), (0, .nameAndType 51 52), (0, u "chunk"), (0, u "Lcom/example/arenabuddy/arenabuddy/chunk/Chunk;"), (8, u "clear"), (15, .fieldref 10 78), (0, .nameAndType 79 80), (0, u "slotRun"), (0, u "Lcom/example/arenabuddy/arenabuddy/chunk/SlotRun;"), (2, u "handle"), (13, u "reserved"), (0, .fieldref 10 99), (0, .nameAndType 100 101), (0, u "cache"), (0, u "Lcom/example/arenabuddy/arenabuddy/ThreadCache;"), (28, u "NOT_FROM_CACHE")] 17

def k3c0 : Code := { maxStack := 2, maxLocals := 1, code := prog_7_method_1_code, exceptionTable := #[], attributes := #[] }
def k3m0 : Method := { name := "<init>", desc := "()V", sig := { parameters := [], returnType := none }, accessFlags := 0, code := some k3c0 }
def k3c1 : Code := { maxStack := 2, maxLocals := 1, code := prog_7_method_8_code, exceptionTable := #[], attributes := #[] }
def k3m1 : Method := { name := "clear", desc := "()V", sig := { parameters := [], returnType := none }, accessFlags := 0, code := some k3c1 }
/-- com/example/arenabuddy/arenabuddy/LeaseMemory -/
def k3 : Class := { plain "com/example/arenabuddy/arenabuddy/LeaseMemory" (some 0) with
  accessFlags := 48
  interfaces := #[]
  cf := some (fileOf pool3 10 #[] #[{ accessFlags := 0, nameIndex := 5, descriptorIndex := 6, attributes := #[] }, { accessFlags := 0, nameIndex := 61, descriptorIndex := 6, attributes := #[] }] 48 2 #[] #[{ accessFlags := 24, nameIndex := 130, descriptorIndex := 14, attributes := #[] }, { accessFlags := 26, nameIndex := 24, descriptorIndex := 25, attributes := #[] }, { accessFlags := 0, nameIndex := 100, descriptorIndex := 101, attributes := #[] }, { accessFlags := 0, nameIndex := 51, descriptorIndex := 52, attributes := #[] }, { accessFlags := 0, nameIndex := 79, descriptorIndex := 80, attributes := #[] }, { accessFlags := 0, nameIndex := 83, descriptorIndex := 14, attributes := #[] }, { accessFlags := 0, nameIndex := 97, descriptorIndex := 14, attributes := #[] }, { accessFlags := 0, nameIndex := 47, descriptorIndex := 48, attributes := #[] }, { accessFlags := 0, nameIndex := 13, descriptorIndex := 14, attributes := #[] }, { accessFlags := 0, nameIndex := 17, descriptorIndex := 14, attributes := #[] }, { accessFlags := 66, nameIndex := 20, descriptorIndex := 21, attributes := #[] }, { accessFlags := 2, nameIndex := 34, descriptorIndex := 35, attributes := #[] }])
  fields := #[{ name := "NOT_FROM_CACHE", type := .int, accessFlags := 24, slot := 0, constantValue := 0 }, { name := "GENERATION", type := (.object "java/lang/invoke/VarHandle"), accessFlags := 26, slot := 1, constantValue := 0 }, { name := "cache", type := (.object "com/example/arenabuddy/arenabuddy/ThreadCache"), accessFlags := 0, slot := 0, constantValue := 0 }, { name := "chunk", type := (.object "com/example/arenabuddy/arenabuddy/chunk/Chunk"), accessFlags := 0, slot := 1, constantValue := 0 }, { name := "slotRun", type := (.object "com/example/arenabuddy/arenabuddy/chunk/SlotRun"), accessFlags := 0, slot := 2, constantValue := 0 }, { name := "handle", type := .int, accessFlags := 0, slot := 3, constantValue := 0 }, { name := "reserved", type := .int, accessFlags := 0, slot := 4, constantValue := 0 }, { name := "view", type := (.object "java/nio/ByteBuffer"), accessFlags := 0, slot := 5, constantValue := 0 }, { name := "cacheClass", type := .int, accessFlags := 0, slot := 6, constantValue := 0 }, { name := "sweep", type := .int, accessFlags := 0, slot := 7, constantValue := 0 }, { name := "generation", type := .long, accessFlags := 66, slot := 8, constantValue := 0 }, { name := "reused", type := (.object "com/example/arenabuddy/arenabuddy/Lease"), accessFlags := 2, slot := 9, constantValue := 0 }]
  methods := #[k3m0, k3m1]
  instanceTypes := #[(.object "com/example/arenabuddy/arenabuddy/ThreadCache"), (.object "com/example/arenabuddy/arenabuddy/chunk/Chunk"), (.object "com/example/arenabuddy/arenabuddy/chunk/SlotRun"), .int, .int, (.object "java/nio/ByteBuffer"), .int, .int, .long, (.object "com/example/arenabuddy/arenabuddy/Lease")]
  staticTypes := #[.int, (.object "java/lang/invoke/VarHandle")]
  resolved := Array.replicate 148 none
  statics := none }

def pool4 : Array CpInfo := pool [(1, .class_ 2), (0, u "java/lang/Math"), (1, .class_ 6), (1, u "java/lang/Object"), (0, u "<init>"), (0, u "()V"), (89, .class_ 100), (1, u "java/lang/Math$RandomNumberGeneratorHolder"), (71, u "negativeZeroFloatBits"), (0, u "J"), (2, u "negativeZeroDoubleBits"), (21, u "max"), (2, u "min"), (43, u "$assertionsDisabled"), (0, u "Z"), (88, u "(II)I"), (2, u "twoToTheDoubleScaleDown"), (0, u "D"), (4, u "twoToTheDoubleScaleUp"), (9, u "E"), (3, u "PI"), (2, u "TAU"), (2, u "DEGREES_TO_RADIANS"), (0, u "RADIANS_TO_DEGREES")] 94

def k4m0 : Method := { name := "<init>", desc := "()V", sig := { parameters := [], returnType := none }, accessFlags := 2, code := none }
def k4c1 : Code := { maxStack := 2, maxLocals := 2, code := jdk_29_method_65_code, exceptionTable := #[], attributes := #[] }
def k4m1 : Method := { name := "max", desc := "(II)I", sig := { parameters := [.int, .int], returnType := some .int }, accessFlags := 9, code := some k4c1 }
def k4c2 : Code := { maxStack := 2, maxLocals := 2, code := jdk_29_method_69_code, exceptionTable := #[], attributes := #[] }
def k4m2 : Method := { name := "min", desc := "(II)I", sig := { parameters := [.int, .int], returnType := some .int }, accessFlags := 9, code := some k4c2 }
/-- java/lang/Math -/
def k4 : Class := { plain "java/lang/Math" (some 0) with
  accessFlags := 49
  interfaces := #[]
  cf := some (fileOf pool4 1 #[.nestMembers #[98]] #[{ accessFlags := 2, nameIndex := 7, descriptorIndex := 8, attributes := #[] }, { accessFlags := 9, nameIndex := 198, descriptorIndex := 335, attributes := #[] }, { accessFlags := 9, nameIndex := 201, descriptorIndex := 335, attributes := #[] }] 49 4 #[] #[{ accessFlags := 25, nameIndex := 354, descriptorIndex := 339, attributes := #[] }, { accessFlags := 25, nameIndex := 358, descriptorIndex := 339, attributes := #[] }, { accessFlags := 25, nameIndex := 361, descriptorIndex := 339, attributes := #[] }, { accessFlags := 26, nameIndex := 364, descriptorIndex := 339, attributes := #[] }, { accessFlags := 26, nameIndex := 365, descriptorIndex := 339, attributes := #[] }, { accessFlags := 26, nameIndex := 172, descriptorIndex := 173, attributes := #[] }, { accessFlags := 26, nameIndex := 176, descriptorIndex := 173, attributes := #[] }, { accessFlags := 8, nameIndex := 344, descriptorIndex := 339, attributes := #[] }, { accessFlags := 8, nameIndex := 338, descriptorIndex := 339, attributes := #[] }, { accessFlags := 4120, nameIndex := 245, descriptorIndex := 246, attributes := #[] }])
  fields := #[{ name := "E", type := .double, accessFlags := 25, slot := 0, constantValue := 0 }, { name := "PI", type := .double, accessFlags := 25, slot := 1, constantValue := 0 }, { name := "TAU", type := .double, accessFlags := 25, slot := 2, constantValue := 0 }, { name := "DEGREES_TO_RADIANS", type := .double, accessFlags := 26, slot := 3, constantValue := 0 }, { name := "RADIANS_TO_DEGREES", type := .double, accessFlags := 26, slot := 4, constantValue := 0 }, { name := "negativeZeroFloatBits", type := .long, accessFlags := 26, slot := 5, constantValue := 0 }, { name := "negativeZeroDoubleBits", type := .long, accessFlags := 26, slot := 6, constantValue := 0 }, { name := "twoToTheDoubleScaleUp", type := .double, accessFlags := 8, slot := 7, constantValue := 0 }, { name := "twoToTheDoubleScaleDown", type := .double, accessFlags := 8, slot := 8, constantValue := 0 }, { name := "$assertionsDisabled", type := .boolean, accessFlags := 4120, slot := 9, constantValue := 0 }]
  methods := #[k4m0, k4m1, k4m2]
  instanceTypes := #[]
  staticTypes := #[.double, .double, .double, .double, .double, .long, .long, .double, .double, .boolean]
  resolved := Array.replicate 460 none
  statics := none }

def pool5 : Array CpInfo := pool [(2, .class_ 4), (1, u "java/lang/Object"), (0, u "<init>"), (0, u "()V"), (1, .class_ 10), (1, u "java/lang/System"), (0, u "allowSecurityManager"), (0, u "I"), (16, u "cons"), (0, u "Ljava/io/Console;"), (77, .class_ 110), (1, u "java/lang/System$CallersHolder"), (43, u "initialErrStream"), (0, u "Ljava/io/PrintStream;"), (19, u "security"), (0, u "Ljava/lang/SecurityManager;"), (31, .class_ 209), (0, u "java/lang/System$1"), (7, u "props"), (0, u "Ljava/util/Properties;"), (2, u "lineSeparator"), (0, u "Ljava/lang/String;"), (96, .class_ 321), (1, u "java/lang/System$LoggerFinder"), (5, .class_ 328), (0, u "java/lang/System$Logger"), (67, u "err"), (2, u "out"), (91, u "notSupportedJnuEncoding"), (15, u "in"), (17, u "initialIn"), (0, u "Ljava/io/InputStream;"), (35, u "bootLayer"), (0, u "Ljava/lang/ModuleLayer;"), (99, .class_ 664), (0, u "java/lang/System$2"), (9, u "NEVER"), (2, u "MAYBE"), (49, u "arraycopy"), (0, u "(Ljava/lang/Object;ILjava/lang/Object;II)V"), (72, .class_ 802), (0, u "java/lang/System$Logger$Level")] 31

def k5m0 : Method := { name := "<init>", desc := "()V", sig := { parameters := [], returnType := none }, accessFlags := 2, code := none }
def k5m1 : Method := { name := "arraycopy", desc := "(Ljava/lang/Object;ILjava/lang/Object;II)V", sig := { parameters := [(.object "java/lang/Object"), .int, (.object "java/lang/Object"), .int, .int], returnType := none }, accessFlags := 265, code := none }
/-- java/lang/System -/
def k5 : Class := { plain "java/lang/System" (some 0) with
  accessFlags := 49
  interfaces := #[]
  cf := some (fileOf pool5 8 #[.nestMembers #[319, 327, 801, 108, 663, 208]] #[{ accessFlags := 2, nameIndex := 5, descriptorIndex := 6, attributes := #[] }, { accessFlags := 265, nameIndex := 727, descriptorIndex := 728, attributes := #[] }] 49 2 #[] #[{ accessFlags := 25, nameIndex := 507, descriptorIndex := 526, attributes := #[] }, { accessFlags := 25, nameIndex := 399, descriptorIndex := 155, attributes := #[] }, { accessFlags := 25, nameIndex := 396, descriptorIndex := 155, attributes := #[] }, { accessFlags := 10, nameIndex := 525, descriptorIndex := 526, attributes := #[] }, { accessFlags := 26, nameIndex := 674, descriptorIndex := 12, attributes := #[] }, { accessFlags := 26, nameIndex := 677, descriptorIndex := 12, attributes := #[] }, { accessFlags := 10, nameIndex := 11, descriptorIndex := 12, attributes := #[] }, { accessFlags := 74, nameIndex := 175, descriptorIndex := 176, attributes := #[] }, { accessFlags := 10, nameIndex := 491, descriptorIndex := 222, attributes := #[] }, { accessFlags := 74, nameIndex := 29, descriptorIndex := 30, attributes := #[] }, { accessFlags := 74, nameIndex := 154, descriptorIndex := 155, attributes := #[] }, { accessFlags := 10, nameIndex := 217, descriptorIndex := 218, attributes := #[] }, { accessFlags := 10, nameIndex := 221, descriptorIndex := 222, attributes := #[] }, { accessFlags := 8, nameIndex := 562, descriptorIndex := 563, attributes := #[] }])
  fields := #[{ name := "in", type := (.object "java/io/InputStream"), accessFlags := 25, slot := 0, constantValue := 0 }, { name := "out", type := (.object "java/io/PrintStream"), accessFlags := 25, slot := 1, constantValue := 0 }, { name := "err", type := (.object "java/io/PrintStream"), accessFlags := 25, slot := 2, constantValue := 0 }, { name := "initialIn", type := (.object "java/io/InputStream"), accessFlags := 10, slot := 3, constantValue := 0 }, { name := "NEVER", type := .int, accessFlags := 26, slot := 4, constantValue := 0 }, { name := "MAYBE", type := .int, accessFlags := 26, slot := 5, constantValue := 0 }, { name := "allowSecurityManager", type := .int, accessFlags := 10, slot := 6, constantValue := 0 }, { name := "security", type := (.object "java/lang/SecurityManager"), accessFlags := 74, slot := 7, constantValue := 0 }, { name := "notSupportedJnuEncoding", type := (.object "java/lang/String"), accessFlags := 10, slot := 8, constantValue := 0 }, { name := "cons", type := (.object "java/io/Console"), accessFlags := 74, slot := 9, constantValue := 0 }, { name := "initialErrStream", type := (.object "java/io/PrintStream"), accessFlags := 74, slot := 10, constantValue := 0 }, { name := "props", type := (.object "java/util/Properties"), accessFlags := 10, slot := 11, constantValue := 0 }, { name := "lineSeparator", type := (.object "java/lang/String"), accessFlags := 10, slot := 12, constantValue := 0 }, { name := "bootLayer", type := (.object "java/lang/ModuleLayer"), accessFlags := 8, slot := 13, constantValue := 0 }]
  methods := #[k5m0, k5m1]
  instanceTypes := #[]
  staticTypes := #[(.object "java/io/InputStream"), (.object "java/io/PrintStream"), (.object "java/io/PrintStream"), (.object "java/io/InputStream"), .int, .int, .int, (.object "java/lang/SecurityManager"), (.object "java/lang/String"), (.object "java/io/Console"), (.object "java/io/PrintStream"), (.object "java/util/Properties"), (.object "java/lang/String"), (.object "java/lang/ModuleLayer")]
  resolved := Array.replicate 834 none
  statics := none }

def pool6 : Array CpInfo := pool [(2, .class_ 4), (1, u "java/lang/Object"), (0, u "<init>"), (0, u "()V"), (6, .methodref 14 15), (0, .class_ 16), (0, .nameAndType 17 18), (0, u "java/util/Arrays"), (0, u "rangeCheck"), (0, u "(III)V"), (55, .class_ 76), (1, u "java/util/Arrays$NaturalOrder"), (36, .class_ 115), (1, u "java/util/Arrays$LegacyMergeSort"), (1, u "Z"), (257, .class_ 376), (0, u "java/util/Arrays$ArrayList"), (68, u "$assertionsDisabled"), (269, u "MIN_ARRAY_SORT_GRAN"), (0, u "I"), (2, u "INSERTIONSORT_THRESHOLD"), (120, u "fill"), (18, u "([Ljava/lang/Object;IILjava/lang/Object;)V"), (115, .class_ 976), (0, u "java/util/Arrays$ArrayItr")] 52

def k6m0 : Method := { name := "<init>", desc := "()V", sig := { parameters := [], returnType := none }, accessFlags := 2, code := none }
def k6c1 : Code := { maxStack := 4, maxLocals := 3, code := jdk_65_method_30_code, exceptionTable := #[], attributes := #[] }
def k6m1 : Method := { name := "rangeCheck", desc := "(III)V", sig := { parameters := [.int, .int, .int], returnType := none }, accessFlags := 8, code := some k6c1 }
def k6c2 : Code := { maxStack := 3, maxLocals := 5, code := jdk_65_method_118_code, exceptionTable := #[], attributes := #[] }
def k6m2 : Method := { name := "fill", desc := "([Ljava/lang/Object;IILjava/lang/Object;)V", sig := { parameters := [(.array (.object "java/lang/Object")), .int, .int, (.object "java/lang/Object")], returnType := none }, accessFlags := 9, code := some k6c2 }
/-- java/util/Arrays -/
def k6 : Class := { plain "java/util/Arrays" (some 0) with
  accessFlags := 49
  interfaces := #[]
  cf := some (fileOf pool6 14 #[.nestMembers #[975, 375, 113, 74]] #[{ accessFlags := 2, nameIndex := 5, descriptorIndex := 6, attributes := #[] }, { accessFlags := 8, nameIndex := 17, descriptorIndex := 18, attributes := #[] }, { accessFlags := 9, nameIndex := 840, descriptorIndex := 859, attributes := #[] }] 49 2 #[] #[{ accessFlags := 26, nameIndex := 715, descriptorIndex := 716, attributes := #[] }, { accessFlags := 26, nameIndex := 719, descriptorIndex := 716, attributes := #[] }, { accessFlags := 4120, nameIndex := 445, descriptorIndex := 117, attributes := #[] }])
  fields := #[{ name := "MIN_ARRAY_SORT_GRAN", type := .int, accessFlags := 26, slot := 0, constantValue := 0 }, { name := "INSERTIONSORT_THRESHOLD", type := .int, accessFlags := 26, slot := 1, constantValue := 0 }, { name := "$assertionsDisabled", type := .boolean, accessFlags := 4120, slot := 2, constantValue := 0 }]
  methods := #[k6m0, k6m1, k6m2]
  instanceTypes := #[]
  staticTypes := #[.int, .int, .boolean]
  resolved := Array.replicate 1029 none
  statics := none }

def pool7 : Array CpInfo := pool [(1, u "java/lang/Cloneable"), (0, .class_ 1), (0, u "java/lang/Object"), (0, .class_ 3)] 3

/-- java/lang/Cloneable -/
def k7 : Class := { plain "java/lang/Cloneable" (some 0) with
  accessFlags := 1537
  interfaces := #[]
  cf := some (fileOf pool7 2 #[] #[] 1537 4 #[] #[])
  fields := #[]
  methods := #[]
  instanceTypes := #[]
  staticTypes := #[]
  resolved := Array.replicate 8 none
  statics := none }

def pool8 : Array CpInfo := pool [(1, u "java/io/Serializable"), (0, .class_ 1), (0, u "java/lang/Object"), (0, .class_ 3)] 3

/-- java/io/Serializable -/
def k8 : Class := { plain "java/io/Serializable" (some 0) with
  accessFlags := 1537
  interfaces := #[]
  cf := some (fileOf pool8 2 #[] #[] 1537 4 #[] #[])
  fields := #[]
  methods := #[]
  instanceTypes := #[]
  staticTypes := #[]
  resolved := Array.replicate 8 none
  statics := none }

/-- the primitive byte -/
def k9 : Class := { plain "byte" none with kind := .primitive 'B', accessFlags := 0x411 }
/-- [B -/
def k10 : Class := { plain "[B" (some 0) with kind := .array 9 .byte, interfaces := #[7, 8], accessFlags := 1041 }

/-- the primitive int -/
def k11 : Class := { plain "int" none with kind := .primitive 'I', accessFlags := 0x411 }
/-- [I -/
def k12 : Class := { plain "[I" (some 0) with kind := .array 11 .int, interfaces := #[7, 8], accessFlags := 1041 }

/-- [Lcom/example/arenabuddy/arenabuddy/LeaseMemory; -/
def k13 : Class := { plain "[Lcom/example/arenabuddy/arenabuddy/LeaseMemory;" (some 0) with kind := .array 3 (.object "com/example/arenabuddy/arenabuddy/LeaseMemory"), interfaces := #[7, 8], accessFlags := 1041 }

def heap : Heap := #[]
def classes : Array Class := #[k0, k1, k2, k3, k4, k5, k6, k7, k8, k9, k10, k11, k12, k13]
def interned : List (Array UInt16 × Addr) := []
def slotsUsed : Nat := 0
def theMethod : MethodId := ⟨1, 1⟩
def args0 : Array Value := #[.int 31]
def aboutOver (below : List Frame) : State where
  vm := { classes := classes, interned := interned.toArray }
  heap := heap
  slotsUsed := slotsUsed
  threads := #[{ frames := .invoking theMethod args0 :: below }]
def below0 : List Frame := [.native { method := ⟨0, 0⟩, args := #[] }]
def about1 : State := aboutOver below0
def p0 : Program := .bare "" "" ""
def e0 : Env := launch0.env 0 0 0
theorem w_frames : about1.frames = Frame.invoking theMethod args0 :: below0 := rfl
set_option maxRecDepth 65536 in
theorem w_args : argsFit about1.vm theMethod args0 = true := by decide +kernel
set_option maxRecDepth 65536 in
theorem w_heap : heapFits about1 = true := by decide +kernel
set_option maxRecDepth 65536 in
theorem w_runnable : about1.curStatus? = some .runnable := by decide +kernel
set_option maxRecDepth 65536 in
theorem w_alone : about1.alone = true := by decide +kernel
set_option maxRecDepth 65536 in
theorem w_named : about1.methodNamed? x = some theMethod := by decide +kernel
set_option maxRecDepth 65536 in
theorem w_hears : about1.hears theMethod below0 = true := by decide +kernel
set_option maxRecDepth 65536 in
theorem w_ripe : about1.ripe theMethod args0 below0 = true := by decide +kernel
theorem w_running : about1.status = .running := rfl
set_option maxRecDepth 65536 in
theorem w_room : about1.hasRoom e0.platform room_1 = true :=
  launch0.hasRoom_least _ room_1 (by decide +kernel) (by decide +kernel) (by decide +kernel) (by decide +kernel) (by decide +kernel) (by decide +kernel)
theorem allAtoms_all (ts : List Jvm.Cond) (a : Array Jvm.Value) (st : Jvm.State) : (allAtoms ts).before a st = ts.all (fun c => c.before a st) := by
  induction ts with
  | nil => rfl
  | cons c t ih =>
    show (Jvm.Cond.and c (allAtoms t)).before a st = _
    rw [Jvm.Cond.before_and, ih, List.all_cons]
def words1 : List Jvm.Cond := Jvm.Cond.code x code maxLocals ret :: tables_1
/-- a 'code' word, met by the world's own term for the bytes: nothing is compared byte by byte -/
theorem code_word {y : MethodName} {bytes : ByteArray} {mx : Nat} {rt : Option FieldType} {a : Array Value} {s : State} {m : MethodId} {meth : Method} {c : Code} (h1 : s.methodNamed? y = some m) (h2 : s.vm.method? m = some meth) (h3 : meth.code = some c) (h4 : c.code = bytes)
    (h5 : (c.maxLocals == mx && c.exceptionTable.isEmpty && decide (c.maxStack ≤ mostOperands) && decide (meth.sig.returnType = rt) && !meth.locks && decide (parseMethodDescriptor y.desc = some meth.sig)) = true) : (Jvm.Cond.code y bytes mx rt).before a s = true := by
  simp only [Bool.and_eq_true, beq_iff_eq, Bool.not_eq_true', decide_eq_true_eq] at h5
  obtain ⟨⟨⟨⟨⟨g1, g2⟩, g3⟩, g4⟩, g5⟩, g6⟩ := h5
  simp [Cond.before, Cond.holds, Cond.value, h1, h2, h3, h4, g1, g2, g3, g4, g5, g6]
def isCode : Jvm.Cond → Bool
  | .code _ _ _ _ => true
  | _ => false
theorem all_split {L : List Jvm.Cond} {P : Jvm.Cond → Bool} (h1 : L.all (fun c => isCode c || P c) = true) (h2 : ∀ c ∈ L.filter isCode, P c = true) : L.all P = true := by
  refine List.all_eq_true.mpr fun c hc => ?_
  have h := List.all_eq_true.mp h1 c hc
  rcases Bool.eq_false_or_eq_true (isCode c) with hi | hi
  · exact h2 c (List.mem_filter.mpr ⟨hc, hi⟩)
  · simpa [hi] using h
set_option maxRecDepth 65536 in
theorem w_c0 : (Jvm.Cond.code x code maxLocals ret).before args0 about1 = true := code_word (m := ⟨1, 1⟩) (meth := k1m1) (c := k1c1) (by decide +kernel) rfl rfl rfl (by decide +kernel)
set_option maxRecDepth 65536 in
theorem w_c1 : (Jvm.Cond.code ({ cls := "com/example/arenabuddy/arenabuddy/SpareRecords", name := "<init>", desc := "()V" } : Jvm.MethodName) prog_12_method_1_code (1 : Nat) (Option.none : Option Jvm.ClassFile.FieldType)).before args0 about1 = true := code_word (m := ⟨2, 0⟩) (meth := k2m0) (c := k2c0) (by decide +kernel) rfl rfl rfl (by decide +kernel)
set_option maxRecDepth 65536 in
theorem w_c2 : (Jvm.Cond.code ({ cls := "java/lang/Object", name := "<init>", desc := "()V" } : Jvm.MethodName) object_method_1_code (1 : Nat) (Option.none : Option Jvm.ClassFile.FieldType)).before args0 about1 = true := code_word (m := ⟨0, 0⟩) (meth := k0m0) (c := k0c0) (by decide +kernel) rfl rfl rfl (by decide +kernel)
set_option maxRecDepth 65536 in
theorem w_c3 : (Jvm.Cond.code ({ cls := "com/example/arenabuddy/arenabuddy/LeaseMemory", name := "<init>", desc := "()V" } : Jvm.MethodName) prog_7_method_1_code (1 : Nat) (Option.none : Option Jvm.ClassFile.FieldType)).before args0 about1 = true := code_word (m := ⟨3, 0⟩) (meth := k3m0) (c := k3c0) (by decide +kernel) rfl rfl rfl (by decide +kernel)
set_option maxRecDepth 65536 in
theorem w_c4 : (Jvm.Cond.code ({ cls := "com/example/arenabuddy/arenabuddy/SpareRecords", name := "dropAll", desc := "()V" } : Jvm.MethodName) prog_12_method_5_code (1 : Nat) (Option.none : Option Jvm.ClassFile.FieldType)).before args0 about1 = true := code_word (m := ⟨2, 4⟩) (meth := k2m4) (c := k2c4) (by decide +kernel) rfl rfl rfl (by decide +kernel)
set_option maxRecDepth 65536 in
theorem w_c5 : (Jvm.Cond.code ({ cls := "com/example/arenabuddy/arenabuddy/SpareRecords", name := "take", desc := "()Lcom/example/arenabuddy/arenabuddy/LeaseMemory;" } : Jvm.MethodName) prog_12_method_2_code (2 : Nat) (Option.some (Jvm.ClassFile.FieldType.object "com/example/arenabuddy/arenabuddy/LeaseMemory"))).before args0 about1 = true := code_word (m := ⟨2, 1⟩) (meth := k2m1) (c := k2c1) (by decide +kernel) rfl rfl rfl (by decide +kernel)
set_option maxRecDepth 65536 in
theorem w_c6 : (Jvm.Cond.code ({ cls := "com/example/arenabuddy/arenabuddy/SpareRecordsDropAllPinLaw", name := "fresh", desc := "(Lcom/example/arenabuddy/arenabuddy/LeaseMemory;Lcom/example/arenabuddy/arenabuddy/LeaseMemory;Lcom/example/arenabuddy/arenabuddy/LeaseMemory;Lcom/example/arenabuddy/arenabuddy/LeaseMemory;)Z" } : Jvm.MethodName) method_3_code (4 : Nat) (Option.some Jvm.ClassFile.FieldType.boolean)).before args0 about1 = true := code_word (m := ⟨1, 2⟩) (meth := k1m2) (c := k1c2) (by decide +kernel) rfl rfl rfl (by decide +kernel)
set_option maxRecDepth 65536 in
theorem w_c7 : (Jvm.Cond.code ({ cls := "com/example/arenabuddy/arenabuddy/SpareRecords", name := "keep", desc := "(Lcom/example/arenabuddy/arenabuddy/LeaseMemory;)V" } : Jvm.MethodName) prog_12_method_3_code (2 : Nat) (Option.none : Option Jvm.ClassFile.FieldType)).before args0 about1 = true := code_word (m := ⟨2, 2⟩) (meth := k2m2) (c := k2c2) (by decide +kernel) rfl rfl rfl (by decide +kernel)
set_option maxRecDepth 65536 in
theorem w_c8 : (Jvm.Cond.code ({ cls := "com/example/arenabuddy/arenabuddy/LeaseMemory", name := "clear", desc := "()V" } : Jvm.MethodName) prog_7_method_8_code (1 : Nat) (Option.none : Option Jvm.ClassFile.FieldType)).before args0 about1 = true := code_word (m := ⟨3, 1⟩) (meth := k3m1) (c := k3c1) (by decide +kernel) rfl rfl rfl (by decide +kernel)
set_option maxRecDepth 65536 in
theorem w_c9 : (Jvm.Cond.code ({ cls := "java/lang/Math", name := "max", desc := "(II)I" } : Jvm.MethodName) jdk_29_method_65_code (2 : Nat) (Option.some Jvm.ClassFile.FieldType.int)).before args0 about1 = true := code_word (m := ⟨4, 1⟩) (meth := k4m1) (c := k4c1) (by decide +kernel) rfl rfl rfl (by decide +kernel)
set_option maxRecDepth 65536 in
theorem w_c10 : (Jvm.Cond.code ({ cls := "com/example/arenabuddy/arenabuddy/SpareRecords", name := "sweep", desc := "()V" } : Jvm.MethodName) prog_12_method_4_code (3 : Nat) (Option.none : Option Jvm.ClassFile.FieldType)).before args0 about1 = true := code_word (m := ⟨2, 3⟩) (meth := k2m3) (c := k2c3) (by decide +kernel) rfl rfl rfl (by decide +kernel)
set_option maxRecDepth 65536 in
theorem w_c11 : (Jvm.Cond.code ({ cls := "java/util/Arrays", name := "fill", desc := "([Ljava/lang/Object;IILjava/lang/Object;)V" } : Jvm.MethodName) jdk_65_method_118_code (5 : Nat) (Option.none : Option Jvm.ClassFile.FieldType)).before args0 about1 = true := code_word (m := ⟨6, 2⟩) (meth := k6m2) (c := k6c2) (by decide +kernel) rfl rfl rfl (by decide +kernel)
set_option maxRecDepth 65536 in
theorem w_c12 : (Jvm.Cond.code ({ cls := "java/util/Arrays", name := "rangeCheck", desc := "(III)V" } : Jvm.MethodName) jdk_65_method_30_code (3 : Nat) (Option.none : Option Jvm.ClassFile.FieldType)).before args0 about1 = true := code_word (m := ⟨6, 1⟩) (meth := k6m1) (c := k6c1) (by decide +kernel) rfl rfl rfl (by decide +kernel)
set_option maxRecDepth 65536 in
theorem w_c13 : (Jvm.Cond.code ({ cls := "java/lang/Math", name := "min", desc := "(II)I" } : Jvm.MethodName) jdk_29_method_69_code (2 : Nat) (Option.some Jvm.ClassFile.FieldType.int)).before args0 about1 = true := code_word (m := ⟨4, 2⟩) (meth := k4m2) (c := k4c2) (by decide +kernel) rfl rfl rfl (by decide +kernel)
def codes1 : List Jvm.Cond := [Jvm.Cond.code x code maxLocals ret, Jvm.Cond.code ({ cls := "com/example/arenabuddy/arenabuddy/SpareRecords", name := "<init>", desc := "()V" } : Jvm.MethodName) prog_12_method_1_code (1 : Nat) (Option.none : Option Jvm.ClassFile.FieldType), Jvm.Cond.code ({ cls := "java/lang/Object", name := "<init>", desc := "()V" } : Jvm.MethodName) object_method_1_code (1 : Nat) (Option.none : Option Jvm.ClassFile.FieldType), Jvm.Cond.code ({ cls := "com/example/arenabuddy/arenabuddy/LeaseMemory", name := "<init>", desc := "()V" } : Jvm.MethodName) prog_7_method_1_code (1 : Nat) (Option.none : Option Jvm.ClassFile.FieldType), Jvm.Cond.code ({ cls := "com/example/arenabuddy/arenabuddy/SpareRecords", name := "dropAll", desc := "()V" } : Jvm.MethodName) prog_12_method_5_code (1 : Nat) (Option.none : Option Jvm.ClassFile.FieldType), Jvm.Cond.code ({ cls := "com/example/arenabuddy/arenabuddy/SpareRecords", name := "take", desc := "()Lcom/example/arenabuddy/arenabuddy/LeaseMemory;" } : Jvm.MethodName) prog_12_method_2_code (2 : Nat) (Option.some (Jvm.ClassFile.FieldType.object "com/example/arenabuddy/arenabuddy/LeaseMemory")), Jvm.Cond.code ({ cls := "com/example/arenabuddy/arenabuddy/SpareRecordsDropAllPinLaw", name := "fresh", desc := "(Lcom/example/arenabuddy/arenabuddy/LeaseMemory;Lcom/example/arenabuddy/arenabuddy/LeaseMemory;Lcom/example/arenabuddy/arenabuddy/LeaseMemory;Lcom/example/arenabuddy/arenabuddy/LeaseMemory;)Z" } : Jvm.MethodName) method_3_code (4 : Nat) (Option.some Jvm.ClassFile.FieldType.boolean), Jvm.Cond.code ({ cls := "com/example/arenabuddy/arenabuddy/SpareRecords", name := "keep", desc := "(Lcom/example/arenabuddy/arenabuddy/LeaseMemory;)V" } : Jvm.MethodName) prog_12_method_3_code (2 : Nat) (Option.none : Option Jvm.ClassFile.FieldType), Jvm.Cond.code ({ cls := "com/example/arenabuddy/arenabuddy/LeaseMemory", name := "clear", desc := "()V" } : Jvm.MethodName) prog_7_method_8_code (1 : Nat) (Option.none : Option Jvm.ClassFile.FieldType), Jvm.Cond.code ({ cls := "java/lang/Math", name := "max", desc := "(II)I" } : Jvm.MethodName) jdk_29_method_65_code (2 : Nat) (Option.some Jvm.ClassFile.FieldType.int), Jvm.Cond.code ({ cls := "com/example/arenabuddy/arenabuddy/SpareRecords", name := "sweep", desc := "()V" } : Jvm.MethodName) prog_12_method_4_code (3 : Nat) (Option.none : Option Jvm.ClassFile.FieldType), Jvm.Cond.code ({ cls := "java/util/Arrays", name := "fill", desc := "([Ljava/lang/Object;IILjava/lang/Object;)V" } : Jvm.MethodName) jdk_65_method_118_code (5 : Nat) (Option.none : Option Jvm.ClassFile.FieldType), Jvm.Cond.code ({ cls := "java/util/Arrays", name := "rangeCheck", desc := "(III)V" } : Jvm.MethodName) jdk_65_method_30_code (3 : Nat) (Option.none : Option Jvm.ClassFile.FieldType), Jvm.Cond.code ({ cls := "java/lang/Math", name := "min", desc := "(II)I" } : Jvm.MethodName) jdk_29_method_69_code (2 : Nat) (Option.some Jvm.ClassFile.FieldType.int)]
set_option maxRecDepth 65536 in
theorem codes_eq : words1.filter isCode = codes1 := rfl
theorem w_codes : ∀ c ∈ words1.filter isCode, c.before args0 about1 = true := by
  rw [codes_eq]
  intro c hc
  simp only [codes1, List.mem_cons, List.not_mem_nil, or_false] at hc
  rcases hc with rfl | rfl | rfl | rfl | rfl | rfl | rfl | rfl | rfl | rfl | rfl | rfl | rfl | rfl
  · exact w_c0
  · exact w_c1
  · exact w_c2
  · exact w_c3
  · exact w_c4
  · exact w_c5
  · exact w_c6
  · exact w_c7
  · exact w_c8
  · exact w_c9
  · exact w_c10
  · exact w_c11
  · exact w_c12
  · exact w_c13
set_option maxRecDepth 65536 in
theorem w_t1 : (words1.take 24).all (fun c => isCode c || c.before args0 about1) = true := by decide +kernel
set_option maxRecDepth 65536 in
theorem w_t2 : ((words1.drop 24).take 24).all (fun c => isCode c || c.before args0 about1) = true := by decide +kernel
set_option maxRecDepth 65536 in
theorem w_t3 : (((words1.drop 24).drop 24).take 24).all (fun c => isCode c || c.before args0 about1) = true := by decide +kernel
set_option maxRecDepth 65536 in
theorem w_t4 : (((words1.drop 24).drop 24).drop 24).all (fun c => isCode c || c.before args0 about1) = true := by decide +kernel
theorem w_tables : (allAtoms (Jvm.Cond.code x code maxLocals ret :: tables_1)).before args0 about1 = true := by
  rw [allAtoms_all]
  show words1.all (fun c => c.before args0 about1) = true
  refine all_split ?_ w_codes
  rw [← List.take_append_drop 24 words1, List.all_append, w_t1, ← List.take_append_drop 24 (words1.drop 24), List.all_append, w_t2, ← List.take_append_drop 24 ((words1.drop 24).drop 24), List.all_append, w_t3, w_t4]
  rfl
set_option maxRecDepth 65536 in
theorem w_case : (Jvm.Cond.and given_1 narrow_1).before args0 about1 = true := by decide +kernel
theorem w_applies : (headSpec (Jvm.Cond.code x code maxLocals ret :: tables_1) room_1).applies x e0.platform about1 = true :=
  (Spec.applies_iff w_frames).mpr ⟨w_running, w_runnable, w_alone, w_named, w_hears, w_ripe, w_room, w_tables⟩
theorem atStart : AtStart classFile x code maxLocals ret World_1 tables_1 room_1 Calls_1 rest_1 Pre_1 launch0 p0 e0 about1 theMethod args0 below0 :=
  ⟨lists_1, trivial, launch0.admits_env _ _ _, launch0.least_env, fairChoices_fair.cas, fairChoices_fair.clock, w_frames, w_args, w_heap, w_applies, trivial, trivial, w_case⟩
end start1
theorem witness_1 : WitnessClaimed_1 := ⟨start1.p0, start1.e0, start1.about1, start1.theMethod, start1.args0, start1.below0, start1.atStart⟩
end Jvm.Pilot.@@N@@
