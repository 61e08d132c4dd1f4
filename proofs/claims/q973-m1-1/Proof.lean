import JvmDerived
import JvmDerived.Pilot.@@N@@Statement
import JvmDerived.Pilot.@@N@@Code
set_option linter.unusedVariables false
set_option linter.unusedSimpArgs false
@@BLOCK:NumsL.lean.txt@@
namespace Jvm.Pilot.@@N@@
open Jvm Jvm.ClassFile Sem Op Lib Jvm.Free Jvm.Stand Jvm.LawKit Jvm.RoadKit Bundle Jvm.Pilot.@@N@@.Jvm.D

section OwnKit
variable {p : Program} {l : Launch} {e : Env} {R : Room} {s : State} {m : MethodId} {args : Array Value} {below : List Frame} {meth : Method} {c : Code} {T T' : State} {locs : List Loc} {cells slots C S : Nat} {Nd : Outcome → State → List Loc → Prop} {Q : Option Value → Heap → List Loc → Prop} {pc n : Nat} {Ls Ls' : Array Slot} {st : List Value} {g g' : JFrame} {Z : State} {a0 : Array Value} {h : Heap}
/-- from T, with the frame g on top, the method comes to its end, and Q is said of what it returns, of the heap and of the places written -/
def Go (p : Program) (e : Env) (below : List Frame) (Nd : Outcome → State → List Loc → Prop) (Q : Option Value → Heap → List Loc → Prop) (T : State) (g : JFrame) : Prop :=
  ∃ s₂ o, Steps p.tables e below (T.setTop g) s₂ ∧ s₂.status = .running ∧ Ended s₂ below o ∧ ∃ v L, o = .returned v ∧ Q v s₂.heap L ∧ Nd o s₂ L
/-- the narrow end, and the wide one (String constants may have come) -/
def Fe (s : State) (C S : Nat) (o : Outcome) (t : State) (L : List Loc) : Prop := FrameEnd s o t L C S
def Fw (s : State) (C S : Nat) (o : Outcome) (t : State) (L : List Loc) : Prop := ReturnedEndW s o t L C S
theorem Fe.of {v : Option Value} (hC : cells ≤ C) (hS : slots ≤ S) : ∀ t, FrameEnd s (.returned v) t locs cells slots → t.heap = T.heap → Fe s C S (.returned v) t locs := fun t q _ => ⟨q.1, q.2.1, q.2.2.mono hC hS⟩
theorem Go.stp (q : ∀ t, Steps p.tables e below (T'.setTop g') t → Steps p.tables e below (T.setTop g) t) (k : Go p e below Nd Q T' g') : Go p e below Nd Q T g := by
  obtain ⟨s₂, o, h1, h2⟩ := k; exact ⟨s₂, o, q _ h1, h2⟩
theorem Go.tr (q : Steps p.tables e below (T.setTop g) (T'.setTop g')) (k : Go p e below Nd Q T' g') : Go p e below Nd Q T g := Go.stp (fun _ r => q.trans r) k
theorem Go.mono {Q' : Option Value → Heap → List Loc → Prop} (k : Go p e below Nd Q T g) (q : ∀ v h L, Q v h L → Q' v h L) : Go p e below Nd Q' T g := by
  obtain ⟨s₂, o, h1, h2, h3, v, L, h4, h5, h6⟩ := k; exact ⟨s₂, o, h1, h2, h3, v, L, h4, q _ _ _ h5, h6⟩
theorem g_aloadN (X : Stand p l e R s m args below meth c T locs cells slots) (hx : p.tables.exec = Jvm.exec) {k : Fin 4} {v : Value} (hd : decode c.code pc = .ok (.aload_n k, 1)) (hn : pc + 1 = n) (hl : Ls[k.val]? = some (.val v)) (hv : v.isRef = true) (k : Go p e below Nd Q T (mkF m n Ls (v :: st))) : Go p e below Nd Q T (mkF m pc Ls st) := by
  subst hn; exact Go.stp (fun t q => XS.aloadN X.here hx rfl hd hl hv q) k
theorem g_aload (X : Stand p l e R s m args below meth c T locs cells slots) (hx : p.tables.exec = Jvm.exec) {k : Nat} {v : Value} (hd : decode c.code pc = .ok (.aload k, 2)) (hn : pc + 2 = n) (hl : Ls[k]? = some (.val v)) (hv : v.isRef = true) (k : Go p e below Nd Q T (mkF m n Ls (v :: st))) : Go p e below Nd Q T (mkF m pc Ls st) := by
  subst hn; exact Go.stp (fun t q => XS.aload X.here hx rfl hd hl hv q) k
theorem g_iloadN (X : Stand p l e R s m args below meth c T locs cells slots) (hx : p.tables.exec = Jvm.exec) {k : Fin 4} {v : Int32} (hd : decode c.code pc = .ok (.iload_n k, 1)) (hn : pc + 1 = n) (hl : Ls[k.val]? = some (.val (.int v))) (k : Go p e below Nd Q T (mkF m n Ls (.int v :: st))) : Go p e below Nd Q T (mkF m pc Ls st) := by
  subst hn; exact Go.stp (fun t q => XS.iloadN X.here hx rfl hd hl q) k
theorem g_iload (X : Stand p l e R s m args below meth c T locs cells slots) (hx : p.tables.exec = Jvm.exec) {k : Nat} {v : Int32} (hd : decode c.code pc = .ok (.iload k, 2)) (hn : pc + 2 = n) (hl : Ls[k]? = some (.val (.int v))) (k : Go p e below Nd Q T (mkF m n Ls (.int v :: st))) : Go p e below Nd Q T (mkF m pc Ls st) := by
  subst hn; exact Go.stp (fun t q => XS.iload X.here hx rfl hd hl q) k
theorem g_istoreN (X : Stand p l e R s m args below meth c T locs cells slots) (hx : p.tables.exec = Jvm.exec) {k : Fin 4} {v : Int32} (hd : decode c.code pc = .ok (.istore_n k, 1)) (hn : pc + 1 = n) (Ls' : Array Slot) (hl : storeLocals Ls k.val (.int v) = some Ls') (k : Go p e below Nd Q T (mkF m n Ls' st)) : Go p e below Nd Q T (mkF m pc Ls (.int v :: st)) := by
  subst hn; exact Go.stp (fun t q => XS.istoreN X.here hx rfl hd rfl hl q) k
theorem g_istore (X : Stand p l e R s m args below meth c T locs cells slots) (hx : p.tables.exec = Jvm.exec) {k : Nat} {v : Int32} (hd : decode c.code pc = .ok (.istore k, 2)) (hn : pc + 2 = n) (Ls' : Array Slot) (hl : storeLocals Ls k (.int v) = some Ls') (k : Go p e below Nd Q T (mkF m n Ls' st)) : Go p e below Nd Q T (mkF m pc Ls (.int v :: st)) := by
  subst hn; exact Go.stp (fun t q => XS.istore X.here hx rfl hd rfl hl q) k
theorem g_lloadN (X : Stand p l e R s m args below meth c T locs cells slots) (hx : p.tables.exec = Jvm.exec) {k : Fin 4} {v : Int64} (hd : decode c.code pc = .ok (.lload_n k, 1)) (hn : pc + 1 = n) (hl : Ls[k.val]? = some (.val (.long v))) (k : Go p e below Nd Q T (mkF m n Ls (.long v :: st))) : Go p e below Nd Q T (mkF m pc Ls st) := by
  subst hn; exact Go.stp (fun t q => XT.lloadN X.here hx rfl hd hl q) k
theorem g_lload (X : Stand p l e R s m args below meth c T locs cells slots) (hx : p.tables.exec = Jvm.exec) {k : Nat} {v : Int64} (hd : decode c.code pc = .ok (.lload k, 2)) (hn : pc + 2 = n) (hl : Ls[k]? = some (.val (.long v))) (k : Go p e below Nd Q T (mkF m n Ls (.long v :: st))) : Go p e below Nd Q T (mkF m pc Ls st) := by
  subst hn; exact Go.stp (fun t q => XT.lload X.here hx rfl hd hl q) k
theorem g_lstoreN (X : Stand p l e R s m args below meth c T locs cells slots) (hx : p.tables.exec = Jvm.exec) {k : Fin 4} {v : Int64} (hd : decode c.code pc = .ok (.lstore_n k, 1)) (hn : pc + 1 = n) (Ls' : Array Slot) (hl : storeLocals Ls k.val (.long v) = some Ls') (k : Go p e below Nd Q T (mkF m n Ls' st)) : Go p e below Nd Q T (mkF m pc Ls (.long v :: st)) := by
  subst hn; exact Go.stp (fun t q => XT.lstoreN X.here hx rfl hd rfl hl q) k
theorem g_lstore (X : Stand p l e R s m args below meth c T locs cells slots) (hx : p.tables.exec = Jvm.exec) {k : Nat} {v : Int64} (hd : decode c.code pc = .ok (.lstore k, 2)) (hn : pc + 2 = n) (Ls' : Array Slot) (hl : storeLocals Ls k (.long v) = some Ls') (k : Go p e below Nd Q T (mkF m n Ls' st)) : Go p e below Nd Q T (mkF m pc Ls (.long v :: st)) := by
  subst hn; exact Go.stp (fun t q => XT.lstore X.here hx rfl hd rfl hl q) k
theorem g_astoreN (X : Stand p l e R s m args below meth c T locs cells slots) (hx : p.tables.exec = Jvm.exec) {k : Fin 4} {v : Value} (hd : decode c.code pc = .ok (.astore_n k, 1)) (hn : pc + 1 = n) (hv : v.isRef = true) (Ls' : Array Slot) (hl : storeLocals Ls k.val v = some Ls') (k : Go p e below Nd Q T (mkF m n Ls' st)) : Go p e below Nd Q T (mkF m pc Ls (v :: st)) := by
  subst hn; exact Go.stp (fun t q => XS.astoreN X.here hx rfl hd rfl hv hl q) k
theorem g_astore (X : Stand p l e R s m args below meth c T locs cells slots) (hx : p.tables.exec = Jvm.exec) {k : Nat} {v : Value} (hd : decode c.code pc = .ok (.astore k, 2)) (hn : pc + 2 = n) (hv : v.isRef = true) (Ls' : Array Slot) (hl : storeLocals Ls k v = some Ls') (k : Go p e below Nd Q T (mkF m n Ls' st)) : Go p e below Nd Q T (mkF m pc Ls (v :: st)) := by
  subst hn; exact Go.stp (fun t q => XS.astore X.here hx rfl hd rfl hv hl q) k
theorem g_iconst (X : Stand p l e R s m args below meth c T locs cells slots) (hx : p.tables.exec = Jvm.exec) {i : Int} (v : Int32) (hd : decode c.code pc = .ok (.iconst i, 1)) (hn : pc + 1 = n) (hv : Int32.ofInt i = v) (k : Go p e below Nd Q T (mkF m n Ls (.int v :: st))) : Go p e below Nd Q T (mkF m pc Ls st) := by
  subst hn hv; exact Go.stp (fun t q => XS.iconst X.here hx rfl hd q) k
theorem g_bipush (X : Stand p l e R s m args below meth c T locs cells slots) (hx : p.tables.exec = Jvm.exec) {i : Int} (v : Int32) (hd : decode c.code pc = .ok (.bipush i, 2)) (hn : pc + 2 = n) (hv : (Int8.ofInt i).toInt32 = v) (k : Go p e below Nd Q T (mkF m n Ls (.int v :: st))) : Go p e below Nd Q T (mkF m pc Ls st) := by
  subst hn hv; exact Go.stp (fun t q => XS.bipush X.here hx rfl hd q) k
theorem g_sipush (X : Stand p l e R s m args below meth c T locs cells slots) (hx : p.tables.exec = Jvm.exec) {i : Int} (v : Int32) (hd : decode c.code pc = .ok (.sipush i, 3)) (hn : pc + 3 = n) (hv : (Int16.ofInt i).toInt32 = v) (k : Go p e below Nd Q T (mkF m n Ls (.int v :: st))) : Go p e below Nd Q T (mkF m pc Ls st) := by
  subst hn hv; exact Go.stp (fun t q => XS.sipush X.here hx rfl hd q) k
theorem g_lconst (X : Stand p l e R s m args below meth c T locs cells slots) (hx : p.tables.exec = Jvm.exec) {j : Fin 2} (v : Int64) (hd : decode c.code pc = .ok (.lconst j, 1)) (hn : pc + 1 = n) (hv : Int64.ofNat j = v) (k : Go p e below Nd Q T (mkF m n Ls (.long v :: st))) : Go p e below Nd Q T (mkF m pc Ls st) := by
  subst hn hv; exact Go.stp (fun t q => XT.lconst X.here hx rfl hd q) k
theorem g_aconstNull (X : Stand p l e R s m args below meth c T locs cells slots) (hx : p.tables.exec = Jvm.exec) (hd : decode c.code pc = .ok (.aconst_null, 1)) (hn : pc + 1 = n) (k : Go p e below Nd Q T (mkF m n Ls (.null :: st))) : Go p e below Nd Q T (mkF m pc Ls st) := by
  subst hn; exact Go.stp (fun t q => XS.aconstNull X.here hx rfl hd q) k
theorem g_iadd (X : Stand p l e R s m args below meth c T locs cells slots) (hx : p.tables.exec = Jvm.exec) {x y : Int32} (hd : decode c.code pc = .ok (.iadd, 1)) (hn : pc + 1 = n) (k : Go p e below Nd Q T (mkF m n Ls (.int (x + y) :: st))) : Go p e below Nd Q T (mkF m pc Ls (.int y :: .int x :: st)) := by
  subst hn; exact Go.stp (fun t q => XS.iadd X.here hx rfl hd rfl q) k
theorem g_isub (X : Stand p l e R s m args below meth c T locs cells slots) (hx : p.tables.exec = Jvm.exec) {x y : Int32} (hd : decode c.code pc = .ok (.isub, 1)) (hn : pc + 1 = n) (k : Go p e below Nd Q T (mkF m n Ls (.int (x - y) :: st))) : Go p e below Nd Q T (mkF m pc Ls (.int y :: .int x :: st)) := by
  subst hn; exact Go.stp (fun t q => XS.isub X.here hx rfl hd rfl q) k
theorem g_imul (X : Stand p l e R s m args below meth c T locs cells slots) (hx : p.tables.exec = Jvm.exec) {x y : Int32} (hd : decode c.code pc = .ok (.imul, 1)) (hn : pc + 1 = n) (k : Go p e below Nd Q T (mkF m n Ls (.int (x * y) :: st))) : Go p e below Nd Q T (mkF m pc Ls (.int y :: .int x :: st)) := by
  subst hn; exact Go.stp (fun t q => XS.imul X.here hx rfl hd rfl q) k
theorem g_iand (X : Stand p l e R s m args below meth c T locs cells slots) (hx : p.tables.exec = Jvm.exec) {x y : Int32} (hd : decode c.code pc = .ok (.iand, 1)) (hn : pc + 1 = n) (k : Go p e below Nd Q T (mkF m n Ls (.int (x &&& y) :: st))) : Go p e below Nd Q T (mkF m pc Ls (.int y :: .int x :: st)) := by
  subst hn; exact Go.stp (fun t q => XS.iand X.here hx rfl hd rfl q) k
theorem g_ior (X : Stand p l e R s m args below meth c T locs cells slots) (hx : p.tables.exec = Jvm.exec) {x y : Int32} (hd : decode c.code pc = .ok (.ior, 1)) (hn : pc + 1 = n) (k : Go p e below Nd Q T (mkF m n Ls (.int (x ||| y) :: st))) : Go p e below Nd Q T (mkF m pc Ls (.int y :: .int x :: st)) := by
  subst hn; exact Go.stp (fun t q => XT.ior X.here hx rfl hd rfl q) k
theorem g_ixor (X : Stand p l e R s m args below meth c T locs cells slots) (hx : p.tables.exec = Jvm.exec) {x y : Int32} (hd : decode c.code pc = .ok (.ixor, 1)) (hn : pc + 1 = n) (k : Go p e below Nd Q T (mkF m n Ls (.int (x ^^^ y) :: st))) : Go p e below Nd Q T (mkF m pc Ls (.int y :: .int x :: st)) := by
  subst hn; exact Go.stp (fun t q => XT.ixor X.here hx rfl hd rfl q) k
theorem g_ishl (X : Stand p l e R s m args below meth c T locs cells slots) (hx : p.tables.exec = Jvm.exec) {x y : Int32} (hd : decode c.code pc = .ok (.ishl, 1)) (hn : pc + 1 = n) (k : Go p e below Nd Q T (mkF m n Ls (.int (x <<< (y &&& 31)) :: st))) : Go p e below Nd Q T (mkF m pc Ls (.int y :: .int x :: st)) := by
  subst hn; exact Go.stp (fun t q => XT.ishl X.here hx rfl hd rfl q) k
theorem g_ishr (X : Stand p l e R s m args below meth c T locs cells slots) (hx : p.tables.exec = Jvm.exec) {x y : Int32} (hd : decode c.code pc = .ok (.ishr, 1)) (hn : pc + 1 = n) (k : Go p e below Nd Q T (mkF m n Ls (.int (x >>> (y &&& 31)) :: st))) : Go p e below Nd Q T (mkF m pc Ls (.int y :: .int x :: st)) := by
  subst hn; exact Go.stp (fun t q => XT.ishr X.here hx rfl hd rfl q) k
theorem g_iushr (X : Stand p l e R s m args below meth c T locs cells slots) (hx : p.tables.exec = Jvm.exec) {x y : Int32} (hd : decode c.code pc = .ok (.iushr, 1)) (hn : pc + 1 = n) (k : Go p e below Nd Q T (mkF m n Ls (.int (XT.ushr x y) :: st))) : Go p e below Nd Q T (mkF m pc Ls (.int y :: .int x :: st)) := by
  subst hn; exact Go.stp (fun t q => XT.iushr X.here hx rfl hd rfl q) k
theorem g_irem (X : Stand p l e R s m args below meth c T locs cells slots) (hx : p.tables.exec = Jvm.exec) {x y : Int32} (hd : decode c.code pc = .ok (.irem, 1)) (hn : pc + 1 = n) (hy : y ≠ 0) (k : Go p e below Nd Q T (mkF m n Ls (.int (x % y) :: st))) : Go p e below Nd Q T (mkF m pc Ls (.int y :: .int x :: st)) := by
  subst hn; exact Go.stp (fun t q => iremM X hx rfl hd rfl hy q) k
theorem g_ladd (X : Stand p l e R s m args below meth c T locs cells slots) (hx : p.tables.exec = Jvm.exec) {x y : Int64} (hd : decode c.code pc = .ok (.ladd, 1)) (hn : pc + 1 = n) (k : Go p e below Nd Q T (mkF m n Ls (.long (x + y) :: st))) : Go p e below Nd Q T (mkF m pc Ls (.long y :: .long x :: st)) := by
  subst hn; exact Go.stp (fun t q => XT.ladd X.here hx rfl hd rfl q) k
theorem g_lsub (X : Stand p l e R s m args below meth c T locs cells slots) (hx : p.tables.exec = Jvm.exec) {x y : Int64} (hd : decode c.code pc = .ok (.lsub, 1)) (hn : pc + 1 = n) (k : Go p e below Nd Q T (mkF m n Ls (.long (x - y) :: st))) : Go p e below Nd Q T (mkF m pc Ls (.long y :: .long x :: st)) := by
  subst hn; exact Go.stp (fun t q => XT.lsub X.here hx rfl hd rfl q) k
theorem g_lmul (X : Stand p l e R s m args below meth c T locs cells slots) (hx : p.tables.exec = Jvm.exec) {x y : Int64} (hd : decode c.code pc = .ok (.lmul, 1)) (hn : pc + 1 = n) (k : Go p e below Nd Q T (mkF m n Ls (.long (x * y) :: st))) : Go p e below Nd Q T (mkF m pc Ls (.long y :: .long x :: st)) := by
  subst hn; exact Go.stp (fun t q => XT.lmul X.here hx rfl hd rfl q) k
theorem g_land (X : Stand p l e R s m args below meth c T locs cells slots) (hx : p.tables.exec = Jvm.exec) {x y : Int64} (hd : decode c.code pc = .ok (.land, 1)) (hn : pc + 1 = n) (k : Go p e below Nd Q T (mkF m n Ls (.long (x &&& y) :: st))) : Go p e below Nd Q T (mkF m pc Ls (.long y :: .long x :: st)) := by
  subst hn; exact Go.stp (fun t q => XT.land X.here hx rfl hd rfl q) k
theorem g_ldiv (X : Stand p l e R s m args below meth c T locs cells slots) (hx : p.tables.exec = Jvm.exec) {x y : Int64} (hd : decode c.code pc = .ok (.ldiv, 1)) (hn : pc + 1 = n) (hy : y ≠ 0) (k : Go p e below Nd Q T (mkF m n Ls (.long (x / y) :: st))) : Go p e below Nd Q T (mkF m pc Ls (.long y :: .long x :: st)) := by
  subst hn; exact Go.stp (fun t q => XT.ldiv X.here hx rfl hd rfl hy q) k
theorem g_lrem (X : Stand p l e R s m args below meth c T locs cells slots) (hx : p.tables.exec = Jvm.exec) {x y : Int64} (hd : decode c.code pc = .ok (.lrem, 1)) (hn : pc + 1 = n) (hy : y ≠ 0) (k : Go p e below Nd Q T (mkF m n Ls (.long (x - (x / y) * y) :: st))) : Go p e below Nd Q T (mkF m pc Ls (.long y :: .long x :: st)) := by
  subst hn; exact Go.stp (fun t q => XT.lrem X.here hx rfl hd rfl hy q) k
theorem g_lcmp (X : Stand p l e R s m args below meth c T locs cells slots) (hx : p.tables.exec = Jvm.exec) {x y : Int64} (hd : decode c.code pc = .ok (.lcmp, 1)) (hn : pc + 1 = n) (k : Go p e below Nd Q T (mkF m n Ls (.int (XT.cmpL x y) :: st))) : Go p e below Nd Q T (mkF m pc Ls (.long y :: .long x :: st)) := by
  subst hn; exact Go.stp (fun t q => XT.lcmp X.here hx rfl hd rfl q) k
theorem g_lshr (X : Stand p l e R s m args below meth c T locs cells slots) (hx : p.tables.exec = Jvm.exec) {x : Int64} {y : Int32} (hd : decode c.code pc = .ok (.lshr, 1)) (hn : pc + 1 = n) (k : Go p e below Nd Q T (mkF m n Ls (.long (x >>> (y.toInt64 &&& 63)) :: st))) : Go p e below Nd Q T (mkF m pc Ls (.int y :: .long x :: st)) := by
  subst hn; exact Go.stp (fun t q => XT.lshr X.here hx rfl hd rfl q) k
theorem g_lushr (X : Stand p l e R s m args below meth c T locs cells slots) (hx : p.tables.exec = Jvm.exec) {x : Int64} {y : Int32} (hd : decode c.code pc = .ok (.lushr, 1)) (hn : pc + 1 = n) (k : Go p e below Nd Q T (mkF m n Ls (.long (XT.ushrL x y) :: st))) : Go p e below Nd Q T (mkF m pc Ls (.int y :: .long x :: st)) := by
  subst hn; exact Go.stp (fun t q => XT.lushr X.here hx rfl hd rfl q) k
theorem g_lneg (X : Stand p l e R s m args below meth c T locs cells slots) (hx : p.tables.exec = Jvm.exec) {x : Int64} (hd : decode c.code pc = .ok (.lneg, 1)) (hn : pc + 1 = n) (k : Go p e below Nd Q T (mkF m n Ls (.long (-x) :: st))) : Go p e below Nd Q T (mkF m pc Ls (.long x :: st)) := by
  subst hn; exact Go.stp (fun t q => XT.lneg X.here hx rfl hd rfl q) k
theorem g_i2l (X : Stand p l e R s m args below meth c T locs cells slots) (hx : p.tables.exec = Jvm.exec) {x : Int32} (hd : decode c.code pc = .ok (.i2l, 1)) (hn : pc + 1 = n) (k : Go p e below Nd Q T (mkF m n Ls (.long x.toInt64 :: st))) : Go p e below Nd Q T (mkF m pc Ls (.int x :: st)) := by
  subst hn; exact Go.stp (fun t q => XT.i2l X.here hx rfl hd rfl q) k
theorem g_l2i (X : Stand p l e R s m args below meth c T locs cells slots) (hx : p.tables.exec = Jvm.exec) {x : Int64} (hd : decode c.code pc = .ok (.l2i, 1)) (hn : pc + 1 = n) (k : Go p e below Nd Q T (mkF m n Ls (.int x.toInt32 :: st))) : Go p e below Nd Q T (mkF m pc Ls (.long x :: st)) := by
  subst hn; exact Go.stp (fun t q => XT.l2i X.here hx rfl hd rfl q) k
theorem g_i2b (X : Stand p l e R s m args below meth c T locs cells slots) (hx : p.tables.exec = Jvm.exec) {x : Int32} (hd : decode c.code pc = .ok (.i2b, 1)) (hn : pc + 1 = n) (k : Go p e below Nd Q T (mkF m n Ls (.int x.toInt8.toInt32 :: st))) : Go p e below Nd Q T (mkF m pc Ls (.int x :: st)) := by
  subst hn; exact Go.stp (fun t q => XT.i2b X.here hx rfl hd rfl q) k
theorem g_i2c (X : Stand p l e R s m args below meth c T locs cells slots) (hx : p.tables.exec = Jvm.exec) {x : Int32} (hd : decode c.code pc = .ok (.i2c, 1)) (hn : pc + 1 = n) (k : Go p e below Nd Q T (mkF m n Ls (.int x.toUInt32.toUInt16.toUInt32.toInt32 :: st))) : Go p e below Nd Q T (mkF m pc Ls (.int x :: st)) := by
  subst hn; exact Go.stp (fun t q => XT.i2c X.here hx rfl hd rfl q) k
theorem g_dup (X : Stand p l e R s m args below meth c T locs cells slots) (hx : p.tables.exec = Jvm.exec) {x : Value} (hd : decode c.code pc = .ok (.dup, 1)) (hn : pc + 1 = n) (hc : x.category = 1) (k : Go p e below Nd Q T (mkF m n Ls (x :: x :: st))) : Go p e below Nd Q T (mkF m pc Ls (x :: st)) := by
  subst hn; exact Go.stp (fun t q => XS.dup X.here hx rfl hd rfl hc q) k
theorem g_dupX1 (X : Stand p l e R s m args below meth c T locs cells slots) (hx : p.tables.exec = Jvm.exec) {x y : Value} (hd : decode c.code pc = .ok (.dup_x1, 1)) (hn : pc + 1 = n) (hc : x.category = 1) (hc' : y.category = 1) (k : Go p e below Nd Q T (mkF m n Ls (x :: y :: x :: st))) : Go p e below Nd Q T (mkF m pc Ls (x :: y :: st)) := by
  subst hn; exact Go.stp (fun t q => XT.dupX1 X.here hx rfl hd rfl hc hc' q) k
theorem g_pop (X : Stand p l e R s m args below meth c T locs cells slots) (hx : p.tables.exec = Jvm.exec) {x : Value} (hd : decode c.code pc = .ok (.pop, 1)) (hn : pc + 1 = n) (hc : x.category = 1) (k : Go p e below Nd Q T (mkF m n Ls st)) : Go p e below Nd Q T (mkF m pc Ls (x :: st)) := by
  subst hn; exact Go.stp (fun t q => XT.pop X.here hx rfl hd rfl hc q) k
theorem g_iinc (X : Stand p l e R s m args below meth c T locs cells slots) (hx : p.tables.exec = Jvm.exec) {k : Nat} {cst : Int} {x : Int32} (hd : decode c.code pc = .ok (.iinc k cst, 3)) (hn : pc + 3 = n) (hl : Ls[k]? = some (.val (.int x))) (v : Int32) (hv : x + Int32.ofInt cst = v) (Ls' : Array Slot) (hl' : storeLocals Ls k (.int v) = some Ls') (k : Go p e below Nd Q T (mkF m n Ls' st)) : Go p e below Nd Q T (mkF m pc Ls st) := by
  subst hn hv; exact Go.stp (fun t q => XS.iinc X.here hx rfl hd hl hl' q) k
theorem g_goto (X : Stand p l e R s m args below meth c T locs cells slots) (hx : p.tables.exec = Jvm.exec) {o : Int} (hd : decode c.code pc = .ok (.goto o, 3)) (ho : 0 ≤ (pc : Int) + o) (hp : ((pc : Int) + o).toNat = n) (k : Go p e below Nd Q T (mkF m n Ls st)) : Go p e below Nd Q T (mkF m pc Ls st) :=
  Go.stp (fun t q => XS.goto X.here hx rfl rfl hd ho hp q) k
/-- a branch on an int: P is what it asks -/
theorem g_if (X : Stand p l e R s m args below meth c T locs cells slots) (hx : p.tables.exec = Jvm.exec) {cd : ClassFile.Cond} {o : Int} {x : Int32} {n' : Nat} (P : Prop) [Decidable P] (hP : ifCond.holds cd x = decide P) (hd : decode c.code pc = .ok (.ifCond cd o, 3)) (ho : 0 ≤ (pc : Int) + o) (hp : ((pc : Int) + o).toNat = n) (hn : pc + 3 = n')
    (kY : P → Go p e below Nd Q T (mkF m n Ls st)) (kN : ¬ P → Go p e below Nd Q T (mkF m n' Ls st)) : Go p e below Nd Q T (mkF m pc Ls (.int x :: st)) := by
  subst hn
  by_cases q : P
  · exact Go.stp (fun t r => XS.ifYes X.here hx rfl rfl hd rfl (by rw [hP]; exact decide_eq_true q) ho hp r) (kY q)
  · exact Go.stp (fun t r => XS.ifNo X.here hx rfl hd rfl (by rw [hP]; exact decide_eq_false q) r) (kN q)
theorem g_icmp (X : Stand p l e R s m args below meth c T locs cells slots) (hx : p.tables.exec = Jvm.exec) {cd : ClassFile.Cond} {o : Int} {x y : Int32} {n' : Nat} (P : Prop) [Decidable P] (hP : if_icmp.holds cd x y = decide P) (hd : decode c.code pc = .ok (.if_icmp cd o, 3)) (ho : 0 ≤ (pc : Int) + o) (hp : ((pc : Int) + o).toNat = n) (hn : pc + 3 = n')
    (kY : P → Go p e below Nd Q T (mkF m n Ls st)) (kN : ¬ P → Go p e below Nd Q T (mkF m n' Ls st)) : Go p e below Nd Q T (mkF m pc Ls (.int y :: .int x :: st)) := by
  subst hn
  by_cases q : P
  · exact Go.stp (fun t r => XS.icmpYes X.here hx rfl rfl hd rfl (by rw [hP]; exact decide_eq_true q) ho hp r) (kY q)
  · exact Go.stp (fun t r => XS.icmpNo X.here hx rfl hd rfl (by rw [hP]; exact decide_eq_false q) r) (kN q)
theorem own_acV (cd : ACond) (x y : Value) : XT.acmp cd x y = acV cd (decide (x = y)) := by
  cases cd <;> by_cases q : x = y <;> simp [XT.acmp, acV, q]
theorem g_acmp (X : Stand p l e R s m args below meth c T locs cells slots) (hx : p.tables.exec = Jvm.exec) {cd : ACond} {o : Int} {x y : Value} {n' : Nat} (P : Prop) [Decidable P] (hP : acV cd (decide (x = y)) = decide P) (h1 : x.isRef = true) (h2 : y.isRef = true) (hd : decode c.code pc = .ok (.if_acmp cd o, 3)) (ho : 0 ≤ (pc : Int) + o) (hp : ((pc : Int) + o).toNat = n) (hn : pc + 3 = n')
    (kY : P → Go p e below Nd Q T (mkF m n Ls st)) (kN : ¬ P → Go p e below Nd Q T (mkF m n' Ls st)) : Go p e below Nd Q T (mkF m pc Ls (y :: x :: st)) := by
  subst hn
  by_cases q : P
  · exact Go.stp (fun t r => XT.acmpYes X.here hx rfl rfl hd rfl h1 h2 (by rw [own_acV, hP]; exact decide_eq_true q) ho hp r) (kY q)
  · exact Go.stp (fun t r => XT.acmpNo X.here hx rfl hd rfl h1 h2 (by rw [own_acV, hP]; exact decide_eq_false q) r) (kN q)
theorem own_ceq (x y : Int32) : if_icmp.holds .eq x y = decide (x = y) := by by_cases q : x = y <;> simp [if_icmp.holds, q]
theorem own_cne (x y : Int32) : if_icmp.holds .ne x y = decide (¬ x = y) := by by_cases q : x = y <;> simp [if_icmp.holds, q]
theorem own_clt (x y : Int32) : if_icmp.holds .lt x y = decide (x < y) := rfl
theorem own_cge (x y : Int32) : if_icmp.holds .ge x y = decide (y ≤ x) := rfl
theorem own_cgt (x y : Int32) : if_icmp.holds .gt x y = decide (y < x) := rfl
theorem own_cle (x y : Int32) : if_icmp.holds .le x y = decide (x ≤ y) := rfl
theorem own_zeq (x : Int32) : ifCond.holds .eq x = decide (x = 0) := by rw [if0]; exact own_ceq x 0
theorem own_zne (x : Int32) : ifCond.holds .ne x = decide (¬ x = 0) := by rw [if0]; exact own_cne x 0
theorem own_zlt (x : Int32) : ifCond.holds .lt x = decide (x < 0) := rfl
theorem own_zge (x : Int32) : ifCond.holds .ge x = decide (0 ≤ x) := rfl
theorem own_zgt (x : Int32) : ifCond.holds .gt x = decide (0 < x) := rfl
theorem own_zle (x : Int32) : ifCond.holds .le x = decide (x ≤ 0) := rfl
theorem own_aeq (x y : Value) : acV .eq (decide (x = y)) = decide (x = y) := rfl
theorem own_ane (x y : Value) : acV .ne (decide (x = y)) = decide (¬ x = y) := by by_cases q : x = y <;> simp [acV, q]
theorem g_ifnullNo (X : Stand p l e R s m args below meth c T locs cells slots) (hx : p.tables.exec = Jvm.exec) {o : Int} {b : Nat} (hd : decode c.code pc = .ok (.ifnull o, 3)) (hn : pc + 3 = n) (k : Go p e below Nd Q T (mkF m n Ls st)) : Go p e below Nd Q T (mkF m pc Ls (.ref b :: st)) := by
  subst hn; exact Go.stp (fun t q => XS.ifnullNo X.here hx rfl hd rfl q) k
theorem g_ifnullYes (X : Stand p l e R s m args below meth c T locs cells slots) (hx : p.tables.exec = Jvm.exec) {o : Int} (hd : decode c.code pc = .ok (.ifnull o, 3)) (ho : 0 ≤ (pc : Int) + o) (hp : ((pc : Int) + o).toNat = n) (k : Go p e below Nd Q T (mkF m n Ls st)) : Go p e below Nd Q T (mkF m pc Ls (.null :: st)) :=
  Go.stp (fun t q => XS.ifnullYes X.here hx rfl rfl hd rfl ho hp q) k
theorem g_ifnonnullYes (X : Stand p l e R s m args below meth c T locs cells slots) (hx : p.tables.exec = Jvm.exec) {o : Int} {b : Nat} (hd : decode c.code pc = .ok (.ifnonnull o, 3)) (ho : 0 ≤ (pc : Int) + o) (hp : ((pc : Int) + o).toNat = n) (k : Go p e below Nd Q T (mkF m n Ls st)) : Go p e below Nd Q T (mkF m pc Ls (.ref b :: st)) :=
  Go.stp (fun t q => XT.ifnonnullYes X.here hx rfl rfl hd rfl ho hp q) k
/-! the ends -/
theorem g_ret (X : Stand p l e R s m args below meth c T locs cells slots) (hx : p.tables.exec = Jvm.exec) {i : Instr} {t : FieldType} {w : Value} (hret : meth.sig.returnType = some t) (hlk : meth.locks = false) (hnw : narrow t w = w)
    (hi : (i = .ireturn ∧ (t = .int ∨ t = .boolean ∨ t = .byte ∨ t = .char ∨ t = .short) ∧ ∃ z, w = .int z) ∨ (i = .lreturn ∧ t = .long ∧ ∃ z, w = .long z) ∨ (i = .dreturn ∧ t = .double ∧ ∃ z, w = .double z) ∨ (i = .freturn ∧ t = .float ∧ ∃ z, w = .float z) ∨ (i = .areturn ∧ t.isReference = true ∧ w.isRef = true))
    (hd : decode c.code pc = .ok (i, 1)) (hN : ∀ t, FrameEnd s (.returned (some w)) t locs cells slots → t.heap = T.heap → Nd (.returned (some w)) t locs) (hQ : Q (some w) T.heap locs) : Go p e below Nd Q T (mkF m pc Ls (w :: st)) := by
  obtain ⟨fs, hr, hrun, hended, hW, hsame⟩ := X.leave (v := some w) (fun q => by rw [hret] at q; cases q) hlk
  exact ⟨_, _, retOut X hx hret hnw hi hd hr, hrun, hended, _, _, rfl, hQ, hN _ ⟨⟨_, rfl⟩, hW, hsame⟩ rfl⟩
theorem g_retI (X : Stand p l e R s m args below meth c T locs cells slots) (hx : p.tables.exec = Jvm.exec) {w : Int32} (hret : meth.sig.returnType = some .int) (hlk : meth.locks = false) (hd : decode c.code pc = .ok (.ireturn, 1)) (hN : ∀ t, FrameEnd s (.returned (some (.int w))) t locs cells slots → t.heap = T.heap → Nd (.returned (some (.int w))) t locs) (hQ : Q (some (.int w)) T.heap locs) : Go p e below Nd Q T (mkF m pc Ls (.int w :: st)) :=
  g_ret X hx hret hlk rfl (Or.inl ⟨rfl, Or.inl rfl, _, rfl⟩) hd hN hQ
theorem g_retJ (X : Stand p l e R s m args below meth c T locs cells slots) (hx : p.tables.exec = Jvm.exec) {w : Int64} (hret : meth.sig.returnType = some .long) (hlk : meth.locks = false) (hd : decode c.code pc = .ok (.lreturn, 1)) (hN : ∀ t, FrameEnd s (.returned (some (.long w))) t locs cells slots → t.heap = T.heap → Nd (.returned (some (.long w))) t locs) (hQ : Q (some (.long w)) T.heap locs) : Go p e below Nd Q T (mkF m pc Ls (.long w :: st)) :=
  g_ret X hx hret hlk rfl (Or.inr (Or.inl ⟨rfl, rfl, _, rfl⟩)) hd hN hQ
theorem g_retZ (X : Stand p l e R s m args below meth c T locs cells slots) (hx : p.tables.exec = Jvm.exec) {w : Int32} (hw01 : w = 0 ∨ w = 1) (hret : meth.sig.returnType = some .boolean) (hlk : meth.locks = false) (hd : decode c.code pc = .ok (.ireturn, 1)) (hN : ∀ t, FrameEnd s (.returned (some (.int w))) t locs cells slots → t.heap = T.heap → Nd (.returned (some (.int w))) t locs) (hQ : Q (some (.int w)) T.heap locs) : Go p e below Nd Q T (mkF m pc Ls (.int w :: st)) :=
  g_ret X hx hret hlk (by rcases hw01 with rfl | rfl <;> rfl) (Or.inl ⟨rfl, Or.inr (Or.inl rfl), _, rfl⟩) hd hN hQ
theorem g_retN (X : Stand p l e R s m args below meth c T locs cells slots) (hx : p.tables.exec = Jvm.exec) {w : Int32} {t : FieldType} (ht : t = .byte ∨ t = .char ∨ t = .short) (hnw : narrow t (.int w) = .int w) (hret : meth.sig.returnType = some t) (hlk : meth.locks = false) (hd : decode c.code pc = .ok (.ireturn, 1)) (hN : ∀ t, FrameEnd s (.returned (some (.int w))) t locs cells slots → t.heap = T.heap → Nd (.returned (some (.int w))) t locs) (hQ : Q (some (.int w)) T.heap locs) : Go p e below Nd Q T (mkF m pc Ls (.int w :: st)) :=
  g_ret X hx hret hlk hnw (Or.inl ⟨rfl, by rcases ht with rfl | rfl | rfl <;> simp, _, rfl⟩) hd hN hQ
theorem g_retA (X : Stand p l e R s m args below meth c T locs cells slots) (hx : p.tables.exec = Jvm.exec) {w : Value} {t : FieldType} (hret : meth.sig.returnType = some t) (ht : t.isReference = true) (hw : w.isRef = true) (hlk : meth.locks = false) (hd : decode c.code pc = .ok (.areturn, 1)) (hN : ∀ t, FrameEnd s (.returned (some w)) t locs cells slots → t.heap = T.heap → Nd (.returned (some w)) t locs) (hQ : Q (some w) T.heap locs) : Go p e below Nd Q T (mkF m pc Ls (w :: st)) :=
  g_ret X hx hret hlk (by rcases ref_cases hw with rfl | ⟨a, rfl⟩ <;> cases t <;> first | rfl | cases ht) (Or.inr (Or.inr (Or.inr (Or.inr ⟨rfl, ht, hw⟩)))) hd hN hQ
theorem g_retV (X : Stand p l e R s m args below meth c T locs cells slots) (hx : p.tables.exec = Jvm.exec) (hret : meth.sig.returnType = none) (hlk : meth.locks = false) (hd : decode c.code pc = .ok (.return_, 1)) (hN : ∀ t, FrameEnd s (.returned none) t locs cells slots → t.heap = T.heap → Nd (.returned none) t locs) (hQ : Q none T.heap locs) : Go p e below Nd Q T (mkF m pc Ls []) := by
  obtain ⟨fs, hr, hrun, hended, hW, hsame⟩ := X.leave (v := none) (fun _ => rfl) hlk
  exact ⟨_, _, X.returnOut hx hret hd hr, hrun, hended, _, _, rfl, hQ, hN _ ⟨⟨_, rfl⟩, hW, hsame⟩ rfl⟩
/-! tables and heap -/
variable {own : String} {index : Nat}
theorem g_ldcI (X : Stand p l e R s m args below meth c T locs cells slots) (hx : p.tables.exec = Jvm.exec) (hZ : Z.Warmed39 s.vm) {v : Int32} (hown : s.vm.findClass own = some m.cls) (w : (Cond.constant own index v).before a0 Z = true) (hd : decode c.code pc = .ok (.ldc index, 2)) (hn : pc + 2 = n) (k : Go p e below Nd Q T (mkF m n Ls (.int v :: st))) : Go p e below Nd Q T (mkF m pc Ls st) := by
  subst hn; exact Go.stp (fun t q => X.ldcI hx hown (mvT hZ w) rfl hd q) k
theorem g_ldc2 (X : Stand p l e R s m args below meth c T locs cells slots) (hx : p.tables.exec = Jvm.exec) (hZ : Z.Warmed39 s.vm) {v : Int64} (hown : s.vm.findClass own = some m.cls) (w : (Cond.constantLong own index v).before a0 Z = true) (hd : decode c.code pc = .ok (.ldc2_w index, 3)) (hn : pc + 3 = n) (k : Go p e below Nd Q T (mkF m n Ls (.long v :: st))) : Go p e below Nd Q T (mkF m pc Ls st) := by
  subst hn; exact Go.stp (fun t q => X.ldc2J hx hown (mvT hZ w) rfl hd q) k
theorem g_getF (X : Stand p l e R s m args below meth c T locs cells slots) (hx : p.tables.exec = Jvm.exec) (hZ : Z.Warmed39 s.vm) {O f d : String} (hown : s.vm.findClass own = some m.cls) (w : (Cond.fieldLink own index O f d).before a0 Z = true) (eT : T.heap = h) {a : Nat} {v : Value} (F : Fld Z h a O f d v) (hd : decode c.code pc = .ok (.getfield index, 3)) (hn : pc + 3 = n)
    (k : ∀ T', Stand p l e R s m args below meth c T' locs cells slots → T'.heap = h → Go p e below Nd Q T' (mkF m n Ls (v :: st))) : Go p e below Nd Q T (mkF m pc Ls (.ref a :: st)) := by
  subst hn
  obtain ⟨T1, X1, e1, st1⟩ := getF X hx hZ hown (host := "") (Or.inl w) Via.refl eT F (g := mkF m pc Ls (.ref a :: st)) rfl rfl hd
  exact Go.stp st1 (k T1 X1 e1)
theorem g_getS (X : Stand p l e R s m args below meth c T locs cells slots) (hx : p.tables.exec = Jvm.exec) (hZ : Z.Warmed39 s.vm) {O f d : String} (hown : s.vm.findClass own = some m.cls) (w : (Cond.fieldLink own index O f d).before a0 Z = true) (eT : T.heap = h) {v : Value} (F : Sta Z h O f d v) (hd : decode c.code pc = .ok (.getstatic index, 3)) (hn : pc + 3 = n)
    (k : ∀ T', Stand p l e R s m args below meth c T' locs cells slots → T'.heap = h → Go p e below Nd Q T' (mkF m n Ls (v :: st))) : Go p e below Nd Q T (mkF m pc Ls st) := by
  subst hn
  obtain ⟨T1, X1, e1, st1⟩ := getS X hx hZ (host := "") hown w Via.refl eT F (g := mkF m pc Ls st) rfl hd
  exact Go.stp st1 (k T1 X1 e1)
theorem g_putF (X : Stand p l e R s m args below meth c T locs cells slots) (hx : p.tables.exec = Jvm.exec) (hZ : Z.Warmed39 s.vm) {O f d K : String} {kk : Nat} {ty : FieldType} (hown : s.vm.findClass own = some m.cls) (w : (Cond.fieldLink own index O f d).before a0 Z = true) (eT : T.heap = h) {a : Nat} {v old : Value} (F : Fld Z h a O f d old) (E : Exa Z h a K)
    (L : (Cond.lays K O f d).before a0 Z = true ∨ ((Cond.laysFinal K O f d).before a0 Z = true ∧ own = O ∧ meth.name = "<init>")) (wi : (Cond.instantiable K kk).before a0 Z = true) (hty : parseFieldDescriptor d = some ty) (hnw : narrow ty v = v) (hf : fits ty v = true) (hd : decode c.code pc = .ok (.putfield index, 3)) (hn : pc + 3 = n)
    (k : ∀ T' h', Stand p l e R s m args below meth c T' (locs ++ [⟨a, Jvm.RoadKit.slotOf Z O f d⟩]) cells slots → T'.heap = h' → Wr h h' a (Jvm.RoadKit.slotOf Z O f d) v → Go p e below Nd Q T' (mkF m n Ls st)) : Go p e below Nd Q T (mkF m pc Ls (v :: .ref a :: st)) := by
  subst hn
  obtain ⟨T1, h1, X1, e1, W1, st1⟩ := putF X hx hZ hown (host := "") (Or.inl w) Via.refl eT F E L wi hty hnw hf (g := mkF m pc Ls (v :: .ref a :: st)) rfl rfl hd
  exact Go.stp st1 (k T1 h1 X1 e1 W1)
theorem g_new (X : Stand p l e R s m args below meth c T locs cells slots) (hx : p.tables.exec = Jvm.exec) (hZ : Z.Warmed39 s.vm) {K : String} {nn : Nat} (hown : s.vm.findClass own = some m.cls) (w : (Cond.classLink own index K).before a0 Z = true) (wi : (Cond.instantiable K nn).before a0 Z = true) (wz : (Cond.initialized K).before a0 Z = true) (eT : T.heap = h) (hd : decode c.code pc = .ok (.new index, 3)) (hn : pc + 3 = n) (hc : cells + 1 ≤ R.cells) (hl : slots + nn ≤ R.slots)
    (k : ∀ T' h' a, Stand p l e R s m args below meth c T' locs (cells + 1) (slots + nn) → T'.heap = h' → a = h.size → Ext h h' → Exa Z h' a K → (∀ {O f d : String} {ty : FieldType}, Laid Z a0 K O f d → parseFieldDescriptor d = some ty → Fld Z h' a O f d (defaultValue ty)) → Go p e below Nd Q T' (mkF m n Ls (.ref a :: st))) : Go p e below Nd Q T (mkF m pc Ls st) := by
  subst hn
  obtain ⟨T1, h1, X1, e1, E1, A1, D1, -, st1⟩ := newO X hx hZ hown w wi wz eT (g := mkF m pc Ls st) rfl hd hc hl
  exact Go.stp st1 (k T1 h1 h.size X1 e1 rfl E1 A1 D1)
theorem g_cast (X : Stand p l e R s m args below meth c T locs cells slots) (hx : p.tables.exec = Jvm.exec) (hZ : Z.Warmed39 s.vm) {K : String} (hown : s.vm.findClass own = some m.cls) (w : (Cond.classLink own index K).before a0 Z = true) (eT : T.heap = h) {a : Nat} (F : Ins Z h a K true) (hd : decode c.code pc = .ok (.checkcast index, 3)) (hn : pc + 3 = n)
    (k : ∀ T', Stand p l e R s m args below meth c T' locs cells slots → T'.heap = h → Go p e below Nd Q T' (mkF m n Ls (.ref a :: st))) : Go p e below Nd Q T (mkF m pc Ls (.ref a :: st)) := by
  subst hn
  obtain ⟨T1, X1, e1, st1⟩ := castY X hx hZ hown w eT F (g := mkF m pc Ls (.ref a :: st)) rfl rfl hd
  exact Go.stp st1 (k T1 X1 e1)
theorem g_inst (X : Stand p l e R s m args below meth c T locs cells slots) (hx : p.tables.exec = Jvm.exec) (hZ : Z.Warmed39 s.vm) {K : String} (hown : s.vm.findClass own = some m.cls) (w : (Cond.classLink own index K).before a0 Z = true) (eT : T.heap = h) {a : Nat} (F : Ins Z h a K true) (hd : decode c.code pc = .ok (.instanceof index, 3)) (hn : pc + 3 = n)
    (k : ∀ T', Stand p l e R s m args below meth c T' locs cells slots → T'.heap = h → Go p e below Nd Q T' (mkF m n Ls (.int 1 :: st))) : Go p e below Nd Q T (mkF m pc Ls (.ref a :: st)) := by
  subst hn
  obtain ⟨T1, X1, e1, st1⟩ := instY X hx hZ hown w eT F (g := mkF m pc Ls (.ref a :: st)) rfl rfl hd
  exact Go.stp st1 (k T1 X1 e1)
/-! calls by contract -/
variable {y z : MethodName} {bytes : ByteArray} {maxL : Nat} {ret : Option FieldType} {rm : Room} {Qc : Option Value → Heap → List Loc → Prop} {ps : List FieldType} {rt : Option FieldType}
/-- a callee's contract over the heap h, with these arguments -/
abbrev OMet (l : Launch) (Z : State) (y : MethodName) (bytes : ByteArray) (maxL : Nat) (ret : Option FieldType) (ws : List Cond) (rm : Room) (as' : Array Value) (h : Heap) (Qc : Option Value → Heap → List Loc → Prop) : Prop :=
  MetFree l y (head1 (Cond.code y bytes maxL ret :: ws) rm) (fun a U => a = as' ∧ Z.Warmed39 U.vm ∧ U.heap = h) (fun _ _ _ _ _ => True) (fun _ U o U' => ∃ v L, o = .returned v ∧ Qc v U'.heap L ∧ FrameEnd U o U' L rm.cells rm.slots)
theorem own_body {ws : List Cond} {as' : Array Value} (hpn : plainFor y = true) (hef : ∀ m, entryFrame m as' maxL = mkF m 0 Ls [])
    (H : ∀ (p : Program) (e : Env) (s : State) (m : MethodId) (below : List Frame) (meth : Method) (c : Code) (s₁ : State), Stand p l e rm s m as' below meth c s₁ [] 0 0 → p.tables.exec = Jvm.exec → c.code = bytes → c.maxLocals = maxL → s.vm.findClass y.cls = some m.cls → meth.name = y.name → meth.sig.returnType = ret → meth.locks = false → Z.Warmed39 s.vm → s₁.heap = h → Go p e below (Fe s rm.cells rm.slots) Qc s₁ (mkF m 0 Ls [])) :
    OMet l Z y bytes maxL ret ws rm as' h Qc := by
  refine MetFree.of_bodySF hpn hisR ?_
  intro p e s m args below meth c s₁ Bd hml0 hP hK
  obtain ⟨rfl, hZ, hh⟩ := hP
  obtain ⟨s₂, o, h1, h2, h3, h4⟩ := H p e s m below meth c s₁ (Stand.of_body Bd) Bd.exec Bd.bytes hml0 (findClass_of_methodNamed Bd.named) (name_of_methodNamed Bd.named Bd.method).1 Bd.returns (BodyLoose.notSynchronized Bd) hZ (by rw [← hh, Bd.state]; rfl)
  exact ⟨s₂, o, castTop (hef m) h1, h2, h3, h4⟩
theorem g_callS (X : Stand p l e R s m args below meth c T locs cells slots) (hx : p.tables.exec = Jvm.exec) (hZ : Z.Warmed39 s.vm) (hown : s.vm.findClass own = some m.cls) (eT : T.heap = h) (w1 : (Cond.methodLink own index y).before a0 Z = true) (w2 : (Cond.static y).before a0 Z = true) (w3 : (Cond.initialized y.cls).before a0 Z = true) (w4 : (Cond.code y bytes maxL ret).before a0 Z = true)
    (hy : y.cls ≠ "java/lang/invoke/MethodHandle" ∧ y.cls ≠ "java/lang/invoke/VarHandle") (as' : List Value) (hM : OMet l Z y bytes maxL ret [] rm as'.toArray h Qc) (hpd : parseMethodDescriptor y.desc = some ⟨ps, rt⟩) (hlen : as'.length = ps.length) (hd : decode c.code pc = .ok (.invokestatic index, 3)) (hn : pc + 3 = n) (hsize : Ls.size = c.maxLocals)
    (hf : rm.frames + 1 ≤ R.frames) (W : Nat) (hW : (st.map fun v => v.category).sum ≤ W) (hl : W + (maxL + 11) + rm.locals ≤ R.locals) (hc : cells + rm.cells ≤ R.cells) (hs : slots + rm.slots ≤ R.slots)
    (k : ∀ T' h' v L, Stand p l e R s m args below meth c T' (locs ++ L) (cells + rm.cells) (slots + rm.slots) → T'.heap = h' → Qc v h' L → Go p e below Nd Q T' (mkF m n Ls (v.toList ++ st))) : Go p e below Nd Q T (mkF m pc Ls (as'.reverse ++ st)) := by
  subst hn
  obtain ⟨v, _, ⟨T1, L1, k1, n1⟩, -, X1, ⟨L, hQ1, l1, y1, z1⟩, st1⟩ := Jvm.LawKit.callS X hx (y := y) hown (mvT hZ w1) (mvT hZ w2) (mvT hZ w3) (mvT hZ w4) hy (backOf (W := W) hM hZ w4 w3 hf hl) (g := mkF m pc Ls (as'.reverse ++ st)) rfl hsize (argsL := as') (rest := st) (lenOf hpd hlen) rfl (by show 2 * 0 + _ ≤ _; omega) hd (fun _ _ => ⟨rfl, eT, hc, hs⟩)
  dsimp only [Pt.U, Pt.locs, Pt.cells, Pt.slots] at X1 l1 y1 z1 st1 hQ1
  subst l1 y1 z1
  exact Go.stp st1 (k T1 _ v L X1 rfl hQ1)
/-- a callee that returns w and changes nothing -/
def Pu (w : Value) (h0 : Heap) (v : Option Value) (h : Heap) (L : List Loc) : Prop := v = some w ∧ L = [] ∧ h = h0
theorem g_callSP (X : Stand p l e R s m args below meth c T locs cells slots) (hx : p.tables.exec = Jvm.exec) (hZ : Z.Warmed39 s.vm) (hown : s.vm.findClass own = some m.cls) (eT : T.heap = h) (w1 : (Cond.methodLink own index y).before a0 Z = true) (w2 : (Cond.static y).before a0 Z = true) (w3 : (Cond.initialized y.cls).before a0 Z = true) (w4 : (Cond.code y bytes maxL ret).before a0 Z = true)
    (hy : y.cls ≠ "java/lang/invoke/MethodHandle" ∧ y.cls ≠ "java/lang/invoke/VarHandle") (as' : List Value) {w : Value} (hM : OMet l Z y bytes maxL ret [] rm as'.toArray h (Pu w h)) (hpd : parseMethodDescriptor y.desc = some ⟨ps, rt⟩) (hlen : as'.length = ps.length) (hd : decode c.code pc = .ok (.invokestatic index, 3)) (hn : pc + 3 = n) (hsize : Ls.size = c.maxLocals)
    (hf : rm.frames + 1 ≤ R.frames) (W : Nat) (hW : (st.map fun v => v.category).sum ≤ W) (hl : W + (maxL + 11) + rm.locals ≤ R.locals) (hc : cells + rm.cells ≤ R.cells) (hs : slots + rm.slots ≤ R.slots)
    (k : ∀ T', Stand p l e R s m args below meth c T' locs (cells + rm.cells) (slots + rm.slots) → T'.heap = h → Go p e below Nd Q T' (mkF m n Ls (w :: st))) : Go p e below Nd Q T (mkF m pc Ls (as'.reverse ++ st)) :=
  g_callS X hx hZ hown eT w1 w2 w3 w4 hy as' hM hpd hlen hd hn hsize hf W hW hl hc hs fun T' h' v L X' e' q => by
    obtain ⟨rfl, rfl, rfl⟩ := q
    rw [List.append_nil] at X'
    exact k T' X' e'
/-- a callee that returns nothing and changes nothing -/
def Pv (h0 : Heap) (v : Option Value) (h : Heap) (L : List Loc) : Prop := v = none ∧ L = [] ∧ h = h0
theorem g_callSV (X : Stand p l e R s m args below meth c T locs cells slots) (hx : p.tables.exec = Jvm.exec) (hZ : Z.Warmed39 s.vm) (hown : s.vm.findClass own = some m.cls) (eT : T.heap = h) (w1 : (Cond.methodLink own index y).before a0 Z = true) (w2 : (Cond.static y).before a0 Z = true) (w3 : (Cond.initialized y.cls).before a0 Z = true) (w4 : (Cond.code y bytes maxL ret).before a0 Z = true)
    (hy : y.cls ≠ "java/lang/invoke/MethodHandle" ∧ y.cls ≠ "java/lang/invoke/VarHandle") (as' : List Value) (hM : OMet l Z y bytes maxL ret [] rm as'.toArray h (Pv h)) (hpd : parseMethodDescriptor y.desc = some ⟨ps, rt⟩) (hlen : as'.length = ps.length) (hd : decode c.code pc = .ok (.invokestatic index, 3)) (hn : pc + 3 = n) (hsize : Ls.size = c.maxLocals)
    (hf : rm.frames + 1 ≤ R.frames) (W : Nat) (hW : (st.map fun v => v.category).sum ≤ W) (hl : W + (maxL + 11) + rm.locals ≤ R.locals) (hc : cells + rm.cells ≤ R.cells) (hs : slots + rm.slots ≤ R.slots)
    (k : ∀ T', Stand p l e R s m args below meth c T' locs (cells + rm.cells) (slots + rm.slots) → T'.heap = h → Go p e below Nd Q T' (mkF m n Ls st)) : Go p e below Nd Q T (mkF m pc Ls (as'.reverse ++ st)) :=
  g_callS X hx hZ hown eT w1 w2 w3 w4 hy as' hM hpd hlen hd hn hsize hf W hW hl hc hs fun T' h' v L X' e' q => by
    obtain ⟨rfl, rfl, rfl⟩ := q
    rw [List.append_nil] at X'
    exact k T' X' e'
theorem g_callI (X : Stand p l e R s m args below meth c T locs cells slots) (hx : p.tables.exec = Jvm.exec) (hZ : Z.Warmed39 s.vm) (hown : s.vm.findClass own = some m.cls) (eT : T.heap = h) (hy1 : y.name = "<init>") (w1 : (Cond.methodLink own index y).before a0 Z = true) (w2 : (Cond.instanceMethod y).before a0 Z = true) (w3 : (Cond.initialized y.cls).before a0 Z = true) (w4 : (Cond.code y bytes maxL none).before a0 Z = true)
    (hy : y.cls ≠ "java/lang/invoke/MethodHandle" ∧ y.cls ≠ "java/lang/invoke/VarHandle") (a : Nat) (as' : List Value) (hM : OMet l Z y bytes maxL none [] rm (.ref a :: as').toArray h Qc) (hpd : parseMethodDescriptor y.desc = some ⟨ps, rt⟩) (hlen : as'.length = ps.length) (hd : decode c.code pc = .ok (.invokespecial index, 3)) (hn : pc + 3 = n) (hsize : Ls.size = c.maxLocals)
    (hf : rm.frames + 1 ≤ R.frames) (W : Nat) (hW : (st.map fun v => v.category).sum ≤ W) (hl : W + (maxL + 11) + rm.locals ≤ R.locals) (hc : cells + rm.cells ≤ R.cells) (hs : slots + rm.slots ≤ R.slots)
    (k : ∀ T' h' v L, Stand p l e R s m args below meth c T' (locs ++ L) (cells + rm.cells) (slots + rm.slots) → T'.heap = h' → Qc v h' L → Go p e below Nd Q T' (mkF m n Ls (v.toList ++ st))) : Go p e below Nd Q T (mkF m pc Ls (as'.reverse ++ .ref a :: st)) := by
  subst hn
  obtain ⟨v, _, ⟨T1, L1, k1, n1⟩, -, X1, ⟨L, hQ1, l1, y1, z1⟩, st1⟩ := X.specialBack hx (y := y) hy1 hown (mvT hZ w1) (mvT hZ w2) (mvT hZ w4) hy (backOf (W := W) hM hZ w4 w3 hf hl) (g := mkF m pc Ls (as'.reverse ++ .ref a :: st)) rfl hsize (Steps.refl _) (a := a) (argsL := as') (rest := st) (lenOf hpd hlen) rfl (by show 2 * 0 + _ ≤ _; omega) hd (fun _ _ => ⟨rfl, eT, hc, hs⟩)
  dsimp only [Pt.U, Pt.locs, Pt.cells, Pt.slots] at X1 l1 y1 z1 st1 hQ1
  subst l1 y1 z1
  exact Go.tr st1 (k T1 _ v L X1 rfl hQ1)
theorem g_callV (X : Stand p l e R s m args below meth c T locs cells slots) (hx : p.tables.exec = Jvm.exec) (hZ : Z.Warmed39 s.vm) (hown : s.vm.findClass own = some m.cls) (eT : T.heap = h) {K : String} (w1 : (Cond.methodLink own index y).before a0 Z = true) (w2 : (Cond.declares y).before a0 Z = true) (hnf : NotFace s y) (w5 : (Cond.selects K y z).before a0 Z = true) (w6 : (Cond.instanceMethod z).before a0 Z = true) (w3 : (Cond.initialized z.cls).before a0 Z = true) (w4 : (Cond.code z bytes maxL ret).before a0 Z = true)
    (hy : y.cls ≠ "java/lang/invoke/MethodHandle" ∧ y.cls ≠ "java/lang/invoke/VarHandle") (a : Nat) (E : Exa Z h a K) (as' : List Value) (hM : OMet l Z z bytes maxL ret [] rm (.ref a :: as').toArray h Qc) (hpd : parseMethodDescriptor y.desc = some ⟨ps, rt⟩) (hlen : as'.length = ps.length) (hd : decode c.code pc = .ok (.invokevirtual index, 3)) (hn : pc + 3 = n) (hsize : Ls.size = c.maxLocals)
    (hf : rm.frames + 1 ≤ R.frames) (W : Nat) (hW : (st.map fun v => v.category).sum ≤ W) (hl : W + (maxL + 11) + rm.locals ≤ R.locals) (hc : cells + rm.cells ≤ R.cells) (hs : slots + rm.slots ≤ R.slots)
    (k : ∀ T' h' v L, Stand p l e R s m args below meth c T' (locs ++ L) (cells + rm.cells) (slots + rm.slots) → T'.heap = h' → Qc v h' L → Go p e below Nd Q T' (mkF m n Ls (v.toList ++ st))) : Go p e below Nd Q T (mkF m pc Ls (as'.reverse ++ .ref a :: st)) := by
  subst hn
  obtain ⟨cq, kq, qa, qb, qc⟩ := isOf hZ eT E
  obtain ⟨v, _, ⟨T1, L1, k1, n1⟩, -, X1, ⟨L, hQ1, l1, y1, z1⟩, st1⟩ := X.virtualBack hx (y := y) (z := z) hown (mvT hZ w1) (mvT hZ w2) hnf (mvT hZ w5) (mvT hZ w6) hy (backOf (W := W) hM hZ w4 w3 hf hl) qa qc (g := mkF m pc Ls (as'.reverse ++ .ref a :: st)) rfl hsize (Steps.refl _) (argsL := as') (rest := st) (lenOf hpd hlen) rfl (by show 2 * 0 + _ ≤ _; omega) hd (fun _ _ => ⟨rfl, eT, hc, hs⟩)
  dsimp only [Pt.U, Pt.locs, Pt.cells, Pt.slots] at X1 l1 y1 z1 st1 hQ1
  subst l1 y1 z1
  exact Go.tr st1 (k T1 _ v L X1 rfl hQ1)
theorem g_callVP (X : Stand p l e R s m args below meth c T locs cells slots) (hx : p.tables.exec = Jvm.exec) (hZ : Z.Warmed39 s.vm) (hown : s.vm.findClass own = some m.cls) (eT : T.heap = h) {K : String} (w1 : (Cond.methodLink own index y).before a0 Z = true) (w2 : (Cond.declares y).before a0 Z = true) (hnf : NotFace s y) (w5 : (Cond.selects K y z).before a0 Z = true) (w6 : (Cond.instanceMethod z).before a0 Z = true) (w3 : (Cond.initialized z.cls).before a0 Z = true) (w4 : (Cond.code z bytes maxL ret).before a0 Z = true)
    (hy : y.cls ≠ "java/lang/invoke/MethodHandle" ∧ y.cls ≠ "java/lang/invoke/VarHandle") (a : Nat) (E : Exa Z h a K) (as' : List Value) {w : Value} (hM : OMet l Z z bytes maxL ret [] rm (.ref a :: as').toArray h (Pu w h)) (hpd : parseMethodDescriptor y.desc = some ⟨ps, rt⟩) (hlen : as'.length = ps.length) (hd : decode c.code pc = .ok (.invokevirtual index, 3)) (hn : pc + 3 = n) (hsize : Ls.size = c.maxLocals)
    (hf : rm.frames + 1 ≤ R.frames) (W : Nat) (hW : (st.map fun v => v.category).sum ≤ W) (hl : W + (maxL + 11) + rm.locals ≤ R.locals) (hc : cells + rm.cells ≤ R.cells) (hs : slots + rm.slots ≤ R.slots)
    (k : ∀ T', Stand p l e R s m args below meth c T' locs (cells + rm.cells) (slots + rm.slots) → T'.heap = h → Go p e below Nd Q T' (mkF m n Ls (w :: st))) : Go p e below Nd Q T (mkF m pc Ls (as'.reverse ++ .ref a :: st)) :=
  g_callV X hx hZ hown eT w1 w2 hnf w5 w6 w3 w4 hy a E as' hM hpd hlen hd hn hsize hf W hW hl hc hs fun T' h' v L X' e' q => by
    obtain ⟨rfl, rfl, rfl⟩ := q
    rw [List.append_nil] at X'
    exact k T' X' e'
theorem own_pad {C' S' : Nat} (X : Stand p l e R s m args below meth c T locs cells slots) (h1 : cells ≤ C') (h2 : slots ≤ S') : Stand p l e R s m args below meth c T locs C' S' :=
  ⟨X.admits, X.cas, X.clock, X.frames, X.room, X.hears, X.method, X.code, X.here, X.tail, X.warmed, X.limits, X.bytes, X.same.mono h1 h2⟩
/-- a private method, called by invokevirtual; wu: any method of the same class that its objects select (so the class is no interface) -/
theorem g_callP (X : Stand p l e R s m args below meth c T locs cells slots) (hx : p.tables.exec = Jvm.exec) (hZ : Z.Warmed39 s.vm) (hown : s.vm.findClass own = some m.cls) (eT : T.heap = h) {u : MethodName} (hu : u.cls = y.cls) (w1 : (Cond.methodLink own index y).before a0 Z = true) (w2 : (Cond.instanceMethod y).before a0 Z = true) (wp : (Cond.privateMethod y).before a0 Z = true) (wu : (Cond.selects u.cls u u).before a0 Z = true) (w3 : (Cond.initialized y.cls).before a0 Z = true) (w4 : (Cond.code y bytes maxL ret).before a0 Z = true)
    (hy : y.cls ≠ "java/lang/invoke/MethodHandle" ∧ y.cls ≠ "java/lang/invoke/VarHandle") (a : Nat) {K : String} (E : Exa Z h a K) (as' : List Value) (hM : OMet l Z y bytes maxL ret [] rm (.ref a :: as').toArray h Qc) (hpd : parseMethodDescriptor y.desc = some ⟨ps, rt⟩) (hlen : as'.length = ps.length) (hd : decode c.code pc = .ok (.invokevirtual index, 3)) (hn : pc + 3 = n) (hsize : Ls.size = c.maxLocals)
    (hf : rm.frames + 1 ≤ R.frames) (W : Nat) (hW : (st.map fun v => v.category).sum ≤ W) (hl : W + (maxL + 11) + rm.locals ≤ R.locals) (hc : cells + rm.cells ≤ R.cells) (hs : slots + rm.slots ≤ R.slots)
    (k : ∀ T' h' v L, Stand p l e R s m args below meth c T' (locs ++ L) (cells + rm.cells) (slots + rm.slots) → T'.heap = h' → Qc v h' L → Go p e below Nd Q T' (mkF m n Ls (v.toList ++ st))) : Go p e below Nd Q T (mkF m pc Ls (as'.reverse ++ .ref a :: st)) := by
  subst hn
  have hpr : s.PrivateAt y := Cond.privateMethod_at (mvP hZ wp (args := args))
  have hin : (Cond.instanceMethod y).before args s = true := mvT hZ w2
  have hus : (Cond.selects u.cls u u).before args s = true := mvT hZ wu
  obtain ⟨cu, ru, mu, u1, -, u3, -, ku, u5, u6⟩ := Cond.selects_spec hus
  have hcu : s.vm.findClass y.cls = some mu.cls := by rw [← hu]; exact findClass_of_methodNamed u3
  have hsel : (Cond.selects y.cls y y).before args s = true := selects_self_of_private hcu u5 u6 hpr hin hy
  obtain ⟨cell, hcell, hob⟩ := E.cell
  obtain ⟨v, _, ⟨T1, L1, k1, n1⟩, -, X1, ⟨L, hQ1, l1, y1, z1⟩, st1⟩ := X.privateBack hx (y := y) hown (mvT hZ w1) hin hsel hpr (mvT hZ w4) hy (backOf (W := W) hM hZ w4 w3 hf hl) (g := mkF m pc Ls (as'.reverse ++ .ref a :: st)) rfl hsize (Steps.refl _) (a := a) (cell := cell) (by rw [eT]; exact hcell) hob (argsL := as') (rest := st) (lenOf hpd hlen) rfl (by show 2 * 0 + _ ≤ _; omega) hd (fun _ _ => ⟨rfl, eT, hc, hs⟩)
  dsimp only [Pt.U, Pt.locs, Pt.cells, Pt.slots] at X1 l1 y1 z1 st1 hQ1
  subst l1 y1 z1
  exact Go.tr st1 (k T1 _ v L X1 rfl hQ1)
/-! arrays: n places, place j holds f j -/
def Av (Z : State) (h : Heap) (a : Nat) (ty : FieldType) (n : Nat) (f : Nat → Value) : Prop := ∃ cl : Cell, Arr Z h a cl ty ∧ cl.slots.size = n ∧ n < 2 ^ 31 ∧ ∀ j, j < n → cl.slots[j]? = some (f j)
variable {h' : Heap} {a b : Nat} {ty : FieldType} {sz : Nat} {f : Nat → Value} {sl : Nat} {v : Value} {ws' : List Nat}
theorem own_elt {K : String} (F : Exa Z h a K) : a < h.size := F.lt
theorem Av.lt (F : Av Z h a ty sz f) : a < h.size := by obtain ⟨c, A, -⟩ := F; exact A.lt
theorem Av.ext (F : Av Z h a ty sz f) (E : Ext h h') : Av Z h' a ty sz f := by obtain ⟨c, A, r⟩ := F; exact ⟨c, A.ext E, r⟩
theorem Av.other (F : Av Z h b ty sz f) (W : Wr h h' a sl v) (q : b ≠ a) : Av Z h' b ty sz f := by obtain ⟨c, A, r⟩ := F; exact ⟨c, A.other W q, r⟩
theorem Av.keep (F : Av Z h a ty sz f) (K : Keep h h' ws') (q : a ∉ ws') : Av Z h' a ty sz f := by obtain ⟨c, A, r⟩ := F; exact ⟨c, ⟨K.2.1 a c A.1 q, A.2⟩, r⟩
theorem Av.bnd (F : Av Z h a ty sz f) : sz < 2 ^ 31 := by obtain ⟨_, _, _, b, _⟩ := F; exact b
theorem Av.congr {f' : Nat → Value} (F : Av Z h a ty sz f) (q : ∀ j, j < sz → f j = f' j) : Av Z h a ty sz f' := by
  obtain ⟨c, A, S, b, H⟩ := F; exact ⟨c, A, S, b, fun j hj => by rw [H j hj, q j hj]⟩
theorem own_in {c : Cell} {k n : Nat} {j : Int32} (hj : j = Int32.ofNat k) (hs : c.slots.size = n) (hk : k < n) (hn : n < 2 ^ 31) : ¬ (j < 0 ∨ c.slots.size ≤ j.toNatClampNeg) ∧ j.toNatClampNeg = k := by
  subst hj hs
  refine ⟨idx_in hk hn, ?_⟩
  have := len_toInt (n := k) (Nat.lt_trans hk hn)
  show (Nat.toInt32 k).toNatClampNeg = k
  simp only [Int32.toNatClampNeg, this]; rfl
theorem own_inc (i : Nat) : Int32.ofNat i + Int32.ofInt 1 = Int32.ofNat (i + 1) := (Int32.ofNat_add i 1).symm
theorem own_le {i n : Nat} (hi : i < 2 ^ 31) (hn : n < 2 ^ 31) : Int32.ofNat n ≤ Int32.ofNat i ↔ n ≤ i := by
  rw [Int32.le_iff_toInt_le, Int32.toInt_ofNat_small hi, Int32.toInt_ofNat_small hn]; omega
theorem own_idx {i : Int32} {j n : Nat} (hj : i = Int32.ofNat j) (h1 : j < n) (h2 : n < 2 ^ 31) : ¬ i < 0 ∧ i < Int32.ofNat n := by
  subst hj
  rw [Int32.lt_iff_toInt_lt, Int32.lt_iff_toInt_lt, Int32.toInt_ofNat_small (by omega), Int32.toInt_ofNat_small h2]
  constructor
  · show ¬ (j : Int) < 0; omega
  · omega
theorem Av.set (F : Av Z h a ty sz f) {k : Nat} (W : Wr h h' a k v) (hk : k < sz) : Av Z h' a ty sz (fun i => if i = k then v else f i) := by
  obtain ⟨c, A, S, b, H⟩ := F
  refine ⟨_, A.same W, by rw [sz_set]; exact S, b, fun j hj => ?_⟩
  simp only [Cell.setSlot]
  by_cases q : j = k
  · subst q; simp [S, hj]
  · rw [Array.getElem?_setIfInBounds_ne (Ne.symm q), H j hj, if_neg q]
theorem Av.new {cA : ClassId} {N : Int32} (A : Arr Z h a (newA cA ty N) ty) (hN : N = Int32.ofNat sz) (hb : sz < 2 ^ 31) : Av Z h a ty sz (fun _ => defaultValue ty) := by
  have e : N.toNatClampNeg = sz := by
    subst hN; have := len_toInt (n := sz) hb; show (Nat.toInt32 sz).toNatClampNeg = sz; simp only [Int32.toNatClampNeg, this]; rfl
  exact ⟨_, A, by rw [sz_new, e], hb, fun j hj => by simp [newA, e, hj]⟩
theorem g_len (X : Stand p l e R s m args below meth c T locs cells slots) (hx : p.tables.exec = Jvm.exec) (hZ : Z.Warmed39 s.vm) (eT : T.heap = h) (F : Av Z h a ty sz f) (hd : decode c.code pc = .ok (.arraylength, 1)) (hn : pc + 1 = n) (k : Go p e below Nd Q T (mkF m n Ls (.int (Int32.ofNat sz) :: st))) : Go p e below Nd Q T (mkF m pc Ls (.ref a :: st)) := by
  subst hn
  obtain ⟨cl, A, S, b, H⟩ := F
  refine Go.stp (fun t q => X.arraylength hx (cell := cl) (by rw [eT]; exact A.1) (State.isArrayOf_alike hZ.alike A.2.1) (g := mkF m pc Ls (.ref a :: st)) rfl rfl hd t q) ?_
  rw [S]; exact k
theorem g_iaload (X : Stand p l e R s m args below meth c T locs cells slots) (hx : p.tables.exec = Jvm.exec) (hZ : Z.Warmed39 s.vm) (eT : T.heap = h) (F : Av Z h a .int sz f) (i : Nat) {j : Int32} (hj : j = Int32.ofNat i) (hi : i < sz) (v : Value) (hv : f i = v) (hd : decode c.code pc = .ok (.iaload, 1)) (hn : pc + 1 = n) (k : Go p e below Nd Q T (mkF m n Ls (v :: st))) : Go p e below Nd Q T (mkF m pc Ls (.int j :: .ref a :: st)) := by
  subst hn hv
  obtain ⟨cl, A, S, b, H⟩ := F
  obtain ⟨q1, q2⟩ := own_in hj S hi b
  exact Go.stp (fun t q => X.iaload hx (j := j) (v := f i) (by rw [eT]; exact A.1) (State.isArrayOf_alike hZ.alike A.2.1) A.2.2 q1 (by rw [q2]; exact H i hi) (g := mkF m pc Ls (.int j :: .ref a :: st)) rfl rfl hd t q) k
theorem g_caload (X : Stand p l e R s m args below meth c T locs cells slots) (hx : p.tables.exec = Jvm.exec) (hZ : Z.Warmed39 s.vm) (eT : T.heap = h) (F : Av Z h a .char sz f) (i : Nat) {j : Int32} (hj : j = Int32.ofNat i) (hi : i < sz) (v : Value) (hv : f i = v) (hd : decode c.code pc = .ok (.caload, 1)) (hn : pc + 1 = n) (k : Go p e below Nd Q T (mkF m n Ls (v :: st))) : Go p e below Nd Q T (mkF m pc Ls (.int j :: .ref a :: st)) := by
  subst hn hv
  obtain ⟨cl, A, S, b, H⟩ := F
  obtain ⟨q1, q2⟩ := own_in hj S hi b
  exact Go.stp (fun t q => X.caload hx (j := j) (v := f i) (by rw [eT]; exact A.1) (State.isArrayOf_alike hZ.alike A.2.1) A.2.2 q1 (by rw [q2]; exact H i hi) (g := mkF m pc Ls (.int j :: .ref a :: st)) rfl rfl hd t q) k
theorem g_baload (X : Stand p l e R s m args below meth c T locs cells slots) (hx : p.tables.exec = Jvm.exec) (hZ : Z.Warmed39 s.vm) (eT : T.heap = h) (F : Av Z h a .byte sz f) (i : Nat) {j : Int32} (hj : j = Int32.ofNat i) (hi : i < sz) (v : Value) (hv : f i = v) (hd : decode c.code pc = .ok (.baload, 1)) (hn : pc + 1 = n) (k : Go p e below Nd Q T (mkF m n Ls (v :: st))) : Go p e below Nd Q T (mkF m pc Ls (.int j :: .ref a :: st)) := by
  subst hn hv
  obtain ⟨cl, A, S, b, H⟩ := F
  obtain ⟨q1, q2⟩ := own_in hj S hi b
  exact Go.stp (fun t q => X.baloadBytes hx (j := j) (v := f i) (by rw [eT]; exact A.1) (State.isArrayOf_alike hZ.alike A.2.1) A.2.2 q1 (by rw [q2]; exact H i hi) (g := mkF m pc Ls (.int j :: .ref a :: st)) rfl rfl hd t q) k
theorem g_aaload (X : Stand p l e R s m args below meth c T locs cells slots) (hx : p.tables.exec = Jvm.exec) (hZ : Z.Warmed39 s.vm) (eT : T.heap = h) (F : Av Z h a ty sz f) (hty : ty.isReference = true) (i : Nat) {j : Int32} (hj : j = Int32.ofNat i) (hi : i < sz) (v : Value) (hv : f i = v) (hd : decode c.code pc = .ok (.aaload, 1)) (hn : pc + 1 = n) (k : Go p e below Nd Q T (mkF m n Ls (v :: st))) : Go p e below Nd Q T (mkF m pc Ls (.int j :: .ref a :: st)) := by
  subst hn hv
  obtain ⟨cl, A, S, b, H⟩ := F
  obtain ⟨q1, q2⟩ := own_in hj S hi b
  exact Go.stp (fun t q => X.aaload hx (j := j) (v := f i) (by rw [eT]; exact A.1) (State.isArrayOf_alike hZ.alike A.2.1) hty A.2.2 q1 (by rw [q2]; exact H i hi) (g := mkF m pc Ls (.int j :: .ref a :: st)) rfl rfl hd t q) k
theorem g_iastore (X : Stand p l e R s m args below meth c T locs cells slots) (hx : p.tables.exec = Jvm.exec) (hZ : Z.Warmed39 s.vm) (eT : T.heap = h) (F : Av Z h a .int sz f) (i : Nat) {j x : Int32} (hj : j = Int32.ofNat i) (hi : i < sz) (hd : decode c.code pc = .ok (.iastore, 1)) (hn : pc + 1 = n)
    (k : ∀ T' h', Stand p l e R s m args below meth c T' (locs ++ [⟨a, i⟩]) cells slots → T'.heap = h' → Wr h h' a i (.int x) → Av Z h' a .int sz (fun w => if w = i then (.int x) else f w) → Go p e below Nd Q T' (mkF m n Ls st)) : Go p e below Nd Q T (mkF m pc Ls (.int x :: .int j :: .ref a :: st)) := by
  subst hn
  have F0 := F
  obtain ⟨cl, A, S, b, H⟩ := F
  obtain ⟨q1, q2⟩ := own_in hj S hi b
  obtain ⟨T1, h1, X1, e1, W1, st1⟩ := stI X hx hZ eT A (j := j) q1 (g := mkF m pc Ls (.int x :: .int j :: .ref a :: st)) rfl rfl hd
  rw [q2] at X1 W1
  exact Go.stp st1 (k T1 h1 X1 e1 W1 (F0.set W1 hi))
theorem g_castore (X : Stand p l e R s m args below meth c T locs cells slots) (hx : p.tables.exec = Jvm.exec) (hZ : Z.Warmed39 s.vm) (eT : T.heap = h) (F : Av Z h a .char sz f) (i : Nat) {j x : Int32} (hj : j = Int32.ofNat i) (hi : i < sz) (hd : decode c.code pc = .ok (.castore, 1)) (hn : pc + 1 = n)
    (k : ∀ T' h', Stand p l e R s m args below meth c T' (locs ++ [⟨a, i⟩]) cells slots → T'.heap = h' → Wr h h' a i (.int (nar .char x)) → Av Z h' a .char sz (fun w => if w = i then (.int (nar .char x)) else f w) → Go p e below Nd Q T' (mkF m n Ls st)) : Go p e below Nd Q T (mkF m pc Ls (.int x :: .int j :: .ref a :: st)) := by
  subst hn
  have F0 := F
  obtain ⟨cl, A, S, b, H⟩ := F
  obtain ⟨q1, q2⟩ := own_in hj S hi b
  obtain ⟨T1, h1, X1, e1, W1, st1⟩ := stC X hx hZ eT A (j := j) q1 (g := mkF m pc Ls (.int x :: .int j :: .ref a :: st)) rfl rfl hd
  rw [q2] at X1 W1
  exact Go.stp st1 (k T1 h1 X1 e1 W1 (F0.set W1 hi))
theorem g_bastore (X : Stand p l e R s m args below meth c T locs cells slots) (hx : p.tables.exec = Jvm.exec) (hZ : Z.Warmed39 s.vm) (eT : T.heap = h) (F : Av Z h a .byte sz f) (i : Nat) {j x : Int32} (hj : j = Int32.ofNat i) (hi : i < sz) (hd : decode c.code pc = .ok (.bastore, 1)) (hn : pc + 1 = n)
    (k : ∀ T' h', Stand p l e R s m args below meth c T' (locs ++ [⟨a, i⟩]) cells slots → T'.heap = h' → Wr h h' a i (.int (nar .byte x)) → Av Z h' a .byte sz (fun w => if w = i then (.int (nar .byte x)) else f w) → Go p e below Nd Q T' (mkF m n Ls st)) : Go p e below Nd Q T (mkF m pc Ls (.int x :: .int j :: .ref a :: st)) := by
  subst hn
  have F0 := F
  obtain ⟨cl, A, S, b, H⟩ := F
  obtain ⟨q1, q2⟩ := own_in hj S hi b
  obtain ⟨T1, h1, X1, e1, W1, st1⟩ := stB X hx hZ eT A (j := j) q1 (g := mkF m pc Ls (.int x :: .int j :: .ref a :: st)) rfl rfl hd
  rw [q2] at X1 W1
  exact Go.stp st1 (k T1 h1 X1 e1 W1 (F0.set W1 hi))
theorem g_aastore (X : Stand p l e R s m args below meth c T locs cells slots) (hx : p.tables.exec = Jvm.exec) (hZ : Z.Warmed39 s.vm) (eT : T.heap = h) (F : Av Z h a ty sz f) (hty : ty.isReference = true) (i : Nat) {j : Int32} (hj : j = Int32.ofNat i) (hi : i < sz) (hS : Sto Z h a v) (hd : decode c.code pc = .ok (.aastore, 1)) (hn : pc + 1 = n)
    (k : ∀ T' h', Stand p l e R s m args below meth c T' (locs ++ [⟨a, i⟩]) cells slots → T'.heap = h' → Wr h h' a i v → Av Z h' a ty sz (fun w => if w = i then v else f w) → Go p e below Nd Q T' (mkF m n Ls st)) : Go p e below Nd Q T (mkF m pc Ls (v :: .int j :: .ref a :: st)) := by
  subst hn
  have F0 := F
  obtain ⟨cl, A, S, b, H⟩ := F
  obtain ⟨q1, q2⟩ := own_in hj S hi b
  obtain ⟨T1, h1, X1, e1, W1, st1⟩ := stR X hx hZ eT A (j := j) q1 hty hS (g := mkF m pc Ls (v :: .int j :: .ref a :: st)) rfl rfl hd
  rw [q2] at X1 W1
  exact Go.stp st1 (k T1 h1 X1 e1 W1 (F0.set W1 hi))
theorem g_newarray (X : Stand p l e R s m args below meth c T locs cells slots) (hx : p.tables.exec = Jvm.exec) (hZ : Z.Warmed39 s.vm) {aty : ArrayType} (ty : FieldType) (hty : newarray.typeOf aty = ty) (w : (Cond.arrayClass ty).before a0 Z = true) (eT : T.heap = h) {N : Int32} (sz : Nat) (hN : N = Int32.ofNat sz) (cap : Nat) (hcap : sz ≤ cap) (hb : cap * 8 ≤ 536870912) (hc : cells + 1 ≤ R.cells) (hl : slots + cap ≤ R.slots) (hd : decode c.code pc = .ok (.newarray aty, 2)) (hn : pc + 2 = n)
    (k : ∀ T' h' a, Stand p l e R s m args below meth c T' locs (cells + 1) (slots + cap) → T'.heap = h' → a = h.size → Ext h h' → Av Z h' a ty sz (fun _ => defaultValue ty) → Go p e below Nd Q T' (mkF m n Ls (.ref a :: st))) : Go p e below Nd Q T (mkF m pc Ls (.int N :: st)) := by
  subst hn hty
  have hb' : sz < 2 ^ 31 := by omega
  have e0 := len_toInt (n := sz) hb'
  have e : N.toNatClampNeg = sz := by subst hN; show (Nat.toInt32 sz).toNatClampNeg = sz; simp only [Int32.toNatClampNeg, e0]; rfl
  have hneg : ¬ N < 0 := by subst hN; rw [Int32.lt_iff_toInt_lt]; show ¬ (Nat.toInt32 sz).toInt < 0; rw [e0]; omega
  obtain ⟨T1, h1, cA, X1, e1, E1, A1, st1⟩ := newP X hx hZ w eT (g := mkF m pc Ls (.int N :: st)) rfl hd rfl hneg (cap := cap) (by rw [e]; exact hcap) hb hc hl
  exact Go.stp st1 (k T1 h1 h.size X1 e1 rfl E1 (Av.new A1 hN hb'))
theorem g_anewarray (X : Stand p l e R s m args below meth c T locs cells slots) (hx : p.tables.exec = Jvm.exec) (hZ : Z.Warmed39 s.vm) {K : String} (hown : s.vm.findClass own = some m.cls) (w1 : (Cond.classLink own index K).before a0 Z = true) (w2 : (Cond.arrayOver (.object K)).before a0 Z = true) (eT : T.heap = h) {N : Int32} (sz : Nat) (hN : N = Int32.ofNat sz) (cap : Nat) (hcap : sz ≤ cap) (hb : cap * 8 ≤ 536870912) (hc : cells + 1 ≤ R.cells) (hl : slots + cap ≤ R.slots) (hd : decode c.code pc = .ok (.anewarray index, 3)) (hn : pc + 3 = n)
    (k : ∀ T' h' a, Stand p l e R s m args below meth c T' locs (cells + 1) (slots + cap) → T'.heap = h' → a = h.size → Ext h h' → Av Z h' a (.object K) sz (fun _ => .null) → (∃ cl : Cell, h'[a]? = some cl ∧ Ovr Z cl.cls K) → Go p e below Nd Q T' (mkF m n Ls (.ref a :: st))) : Go p e below Nd Q T (mkF m pc Ls (.int N :: st)) := by
  subst hn
  have hb' : sz < 2 ^ 31 := by omega
  have e0 := len_toInt (n := sz) hb'
  have e : N.toNatClampNeg = sz := by subst hN; show (Nat.toInt32 sz).toNatClampNeg = sz; simp only [Int32.toNatClampNeg, e0]; rfl
  have hneg : ¬ N < 0 := by subst hN; rw [Int32.lt_iff_toInt_lt]; show ¬ (Nat.toInt32 sz).toInt < 0; rw [e0]; omega
  obtain ⟨T1, h1, cA, X1, e1, E1, A1, O1, st1⟩ := newR X hx hZ hown w1 w2 eT (g := mkF m pc Ls (.int N :: st)) rfl hd rfl hneg (cap := cap) (by rw [e]; exact hcap) hb hc hl
  exact Go.stp st1 (k T1 h1 h.size X1 e1 rfl E1 (Av.new A1 hN hb') ⟨_, A1.1, O1⟩)
theorem own_arv {f : Nat → Value} {sz : Nat} (F : Av Z h a ty sz f) (hf : ∀ j, j < sz → fits ty (f j) = true) : ∃ k, Arv Z h a k ty (Int32.ofNat sz) ((List.range sz).map f) .null := by
  obtain ⟨cl, A, S, b, H⟩ := F
  have e0 := len_toInt (n := sz) b
  have g : ∀ j, j < sz → ((List.range sz).map f).getD j .null = f j := fun j hj => by simp [List.getD_eq_getElem?_getD, hj]
  refine ⟨cl.cls, cl, A, rfl, ?_, ?_, fun j hj => ?_, fun j hj => ?_⟩
  · rw [S]; show sz = (Nat.toInt32 sz).toNatClampNeg; simp only [Int32.toNatClampNeg, e0]; rfl
  · rw [Int32.lt_iff_toInt_lt]; show ¬ (Nat.toInt32 sz).toInt < 0; rw [e0]; omega
  · rw [S] at hj; rw [g j hj]; exact H j hj
  · rw [S] at hj; rw [g j hj]; exact hf j hj
theorem own_stoL : ∀ (us : List Value), (∀ u ∈ us, Sto Z h a u) → StoL Z h a us
  | [], _ => trivial
  | u :: r, q => ⟨q u (by simp), own_stoL r (fun x hx => q x (by simp [hx]))⟩
theorem own_nat {k : Nat} (hk : k < 2 ^ 31) : (Int32.ofNat k).toNatClampNeg = k ∧ ¬ Int32.ofNat k < 0 := by
  have e0 := len_toInt (n := k) hk
  constructor
  · show (Nat.toInt32 k).toNatClampNeg = k; simp only [Int32.toNatClampNeg, e0]; rfl
  · rw [Int32.lt_iff_toInt_lt]; show ¬ (Nat.toInt32 k).toInt < 0; rw [e0]; omega
/-- System.arraycopy within bounds, what is copied fitting -/
theorem g_acopy (X : Stand p l e R s m args below meth c T locs cells slots) (hx : p.tables.exec = Jvm.exec) (hZ : Z.Warmed39 s.vm) (hown : s.vm.findClass own = some m.cls) (w1 : (Cond.methodLink own index ⟨"java/lang/System", "arraycopy", "(Ljava/lang/Object;ILjava/lang/Object;II)V"⟩).before a0 Z = true) (w2 : (Cond.native ⟨"java/lang/System", "arraycopy", "(Ljava/lang/Object;ILjava/lang/Object;II)V"⟩).before a0 Z = true) (w3 : (Cond.static ⟨"java/lang/System", "arraycopy", "(Ljava/lang/Object;ILjava/lang/Object;II)V"⟩).before a0 Z = true) (w4 : (Cond.initialized "java/lang/System").before a0 Z = true) (eT : T.heap = h)
    {f' : Nat → Value} {sz' : Nat} (A : Av Z h a ty sz f) (B : Av Z h b ty sz' f') (hfA : ∀ j, j < sz → fits ty (f j) = true) (hfB : ∀ j, j < sz' → fits ty (f' j) = true) (sp dp nn : Nat) (hty : refKind ty = false ∨ (refKind ty = true ∧ ∀ i, i < nn → Sto Z h b (f (sp + i)))) (h4 : sp + nn ≤ sz) (h5 : dp + nn ≤ sz')
    {vs vd vn : Int32} (hvs : vs = Int32.ofNat sp) (hvd : vd = Int32.ofNat dp) (hvn : vn = Int32.ofNat nn) {n0 : Nat} (N : Fr n0 locs) (ge : n0 ≤ b) (hd : decode c.code pc = .ok (.invokestatic index, 3)) (hn : pc + 3 = n) (hsize : Ls.size = c.maxLocals) (hf : 1 ≤ R.frames) (W : Nat) (hW : (st.map fun v => v.category).sum ≤ W) (hlo : W + (nativeFrameWords "java/lang/System" "arraycopy" 5 + 11) ≤ R.locals)
    (k : ∀ T' h' L, Stand p l e R s m args below meth c T' L cells slots → T'.heap = h' → Fr n0 L → Keep h h' [b] → Av Z h' b ty sz' (fun j => if dp ≤ j ∧ j < dp + nn then f (sp + (j - dp)) else f' j) → Go p e below Nd Q T' (mkF m n Ls st)) : Go p e below Nd Q T (mkF m pc Ls (.int vn :: .int vd :: .ref b :: .int vs :: .ref a :: st)) := by
  subst hn hvs hvd hvn
  have bA := A.bnd
  have bB := B.bnd
  obtain ⟨kA, VA⟩ := own_arv A hfA
  obtain ⟨kB, VB⟩ := own_arv B hfB
  obtain ⟨s1, s2⟩ := own_nat (k := sp) (by omega)
  obtain ⟨d1, d2⟩ := own_nat (k := dp) (by omega)
  obtain ⟨l1, l2⟩ := own_nat (k := nn) (by omega)
  obtain ⟨zA, -⟩ := own_nat (k := sz) bA
  obtain ⟨zB, -⟩ := own_nat (k := sz') bB
  have hus : (List.range nn).map (fun i => f (sp + i)) = (List.range (Int32.ofNat nn).toNatClampNeg).map fun i => ((List.range sz).map f).getD ((Int32.ofNat sp).toNatClampNeg + i) .null := by
    rw [l1, s1]
    apply List.map_congr_left
    intro i hi
    have := List.mem_range.mp hi
    simp [List.getD_eq_getElem?_getD, show sp + i < sz by omega]
  obtain ⟨T1, h1, L1, X1, e1, N1, K1, V1, st1⟩ := cpA X hx hZ hown w1 w2 w3 w4 eT (us := (List.range nn).map (fun i => f (sp + i))) VA VB (by
      rcases hty with q | ⟨q1, q2⟩
      · exact Or.inl ⟨rfl, q⟩
      · refine Or.inr ⟨q1, q1, own_stoL _ (fun u hu => ?_)⟩
        obtain ⟨i, hi, rfl⟩ := List.mem_map.mp hu
        exact q2 i (List.mem_range.mp hi)) s2 d2 l2 (by rw [s1, l1, zA]; exact h4) (by rw [d1, l1, zB]; exact h5) hus (by rw [d1, l1]; simpa using h5) N ge (g := mkF m pc Ls (.int (Int32.ofNat nn) :: .int (Int32.ofNat dp) :: .ref b :: .int (Int32.ofNat sp) :: .ref a :: st)) rfl hsize rfl hd hf (W := W) (by show 2 * 0 + _ ≤ _; omega) hlo
  refine Go.stp st1 (k T1 h1 L1 X1 e1 N1 K1 ?_)
  obtain ⟨cl, A1, -, S1, -, H1, -⟩ := V1
  rw [zB] at S1
  refine ⟨cl, A1, S1, bB, fun j hj => ?_⟩
  rw [H1 j (by rw [S1]; exact hj), d1, l1]
  congr 1
  simp only [List.getD_eq_getElem?_getD]
  by_cases c1 : j < dp
  · rw [if_neg (by omega), List.append_assoc, List.getElem?_append_left (by simp; omega)]
    simp [List.getElem?_take, c1, hj]
  · by_cases c2 : j < dp + nn
    · rw [if_pos ⟨by omega, c2⟩, List.getElem?_append_left (by simp; omega), List.getElem?_append_right (by simp; omega)]
      simp [show min dp sz' = dp by omega, show j - dp < nn by omega]
    · rw [if_neg (by omega), List.getElem?_append_right (by simp; omega)]
      simp [show min dp sz' = dp by omega, List.getElem?_drop, show dp + nn + (j - (dp + nn)) = j by omega, hj]
end OwnKit

/-! the plain law: what the two sides compute, over 'which of the six are alike' alone -/
def own_inn (e : Nat → Nat → Bool) (res : Nat → Nat) (i : Nat) : Nat → Nat → Nat
  | 0, k => k
  | f + 1, k => if k = 0 ∨ e k i = true then k else own_inn e res i f (res (k - 1))
def own_run (e : Nat → Nat → Bool) : Nat → (Nat → Nat) × Nat
  | 0 => (fun _ => 0, 0)
  | i + 1 => if i = 0 then (fun _ => 0, 0) else
    let t := own_run e i
    let k := own_inn e t.1 i t.2 t.2
    let k2 := if e k i = true then k + 1 else k
    (fun j => if j = i then k2 else t.1 j, k2)
theorem own_inn_le (e : Nat → Nat → Bool) (res : Nat → Nat) (i : Nat) (hr : ∀ j, j < i → res j ≤ j) : ∀ f k, k < i → own_inn e res i f k ≤ k := by
  intro f
  induction f with
  | zero => intro k _; exact Nat.le_refl _
  | succ f ih =>
    intro k hk
    unfold own_inn
    split
    · exact Nat.le_refl _
    · rename_i q
      have h0 : k ≠ 0 := fun r => q (Or.inl r)
      have h1 := hr (k - 1) (by omega)
      exact Nat.le_trans (ih _ (by omega)) (by omega)
theorem own_run_succ (e : Nat → Nat → Bool) (i : Nat) (hi : 1 ≤ i) : own_run e (i + 1) = (fun j => if j = i then (if e (own_inn e (own_run e i).1 i (own_run e i).2 (own_run e i).2) i = true then own_inn e (own_run e i).1 i (own_run e i).2 (own_run e i).2 + 1 else own_inn e (own_run e i).1 i (own_run e i).2 (own_run e i).2) else (own_run e i).1 j, if e (own_inn e (own_run e i).1 i (own_run e i).2 (own_run e i).2) i = true then own_inn e (own_run e i).1 i (own_run e i).2 (own_run e i).2 + 1 else own_inn e (own_run e i).1 i (own_run e i).2 (own_run e i).2) := by
  rw [own_run, if_neg (by omega)]
theorem own_inv (e : Nat → Nat → Bool) : ∀ i, 1 ≤ i → (own_run e i).2 < i ∧ ∀ j, j < i → (own_run e i).1 j ≤ j := by
  intro i
  induction i with
  | zero => intro h; omega
  | succ i ih =>
    intro _
    by_cases h0 : i = 0
    · subst h0; rw [own_run, if_pos rfl]; exact ⟨by decide, fun j hj => Nat.zero_le _⟩
    · obtain ⟨q1, q2⟩ := ih (by omega)
      have q3 := own_inn_le e (own_run e i).1 i q2 (own_run e i).2 (own_run e i).2 q1
      rw [own_run_succ e i (by omega)]
      generalize own_inn e (own_run e i).1 i (own_run e i).2 (own_run e i).2 = k at *
      refine ⟨?_, fun j hj => ?_⟩
      · show (if e k i = true then k + 1 else k) < i + 1
        split <;> omega
      · show (if j = i then (if e k i = true then k + 1 else k) else (own_run e i).1 j) ≤ j
        by_cases q : j = i
        · rw [if_pos q]; split <;> omega
        · rw [if_neg q]; exact q2 j (by omega)
def own_at (e : Nat → Nat → Bool) (k b j : Nat) : Bool := decide (b ≤ j) || e j (k - b + j)
def own_bor (e : Nat → Nat → Bool) (k b : Nat) : Bool := own_at e k b 0 && (own_at e k b 1 && (own_at e k b 2 && (own_at e k b 3 && own_at e k b 4)))
def own_long (e : Nat → Nat → Bool) (k : Nat) : Nat :=
  if 5 < k ∧ own_bor e k 5 = true then 5 else if 4 < k ∧ own_bor e k 4 = true then 4 else if 3 < k ∧ own_bor e k 3 = true then 3 else if 2 < k ∧ own_bor e k 2 = true then 2 else if 1 < k ∧ own_bor e k 1 = true then 1 else 0
/-- alike, among the first six -/
def own_e {A : Type} [DecidableEq A] (U : Nat → A) (a b : Nat) : Bool := decide (a < 6) && (decide (b < 6) && decide (U a = U b))
def own_good (e : Nat → Nat → Bool) : Bool := (List.range 7).all fun n => (List.range n).all fun i => decide ((own_run e n).1 i = own_long e (i + 1))
def own_c (c1 c2 c3 c4 c5 : Nat) : Nat → Nat
  | 0 => 0
  | 1 => c1
  | 2 => c2
  | 3 => c3
  | 4 => c4
  | _ => c5
theorem own_all : ∀ (c1 : Fin 2) (c2 : Fin 3) (c3 : Fin 4) (c4 : Fin 5) (c5 : Fin 6), own_good (own_e (own_c c1.val c2.val c3.val c4.val c5.val)) = true := by decide +kernel
/-- the first of the six that is alike -/
def own_first (U : Nat → Int32) (i : Nat) : Nat := if U 0 = U i then 0 else if U 1 = U i then 1 else if U 2 = U i then 2 else if U 3 = U i then 3 else if U 4 = U i then 4 else 5
theorem own_first_eq (U : Nat → Int32) (i : Nat) (hi : i < 6) : U (own_first U i) = U i := by
  unfold own_first
  split
  · assumption
  · split
    · assumption
    · split
      · assumption
      · split
        · assumption
        · split
          · assumption
          · have : i = 0 ∨ i = 1 ∨ i = 2 ∨ i = 3 ∨ i = 4 ∨ i = 5 := by omega
            rcases this with rfl | rfl | rfl | rfl | rfl | rfl <;> first | rfl | (exfalso; simp_all)
theorem own_first_le (U : Nat → Int32) (i : Nat) (hi : i < 6) : own_first U i ≤ i := by
  have : i = 0 ∨ i = 1 ∨ i = 2 ∨ i = 3 ∨ i = 4 ∨ i = 5 := by omega
  rcases this with rfl | rfl | rfl | rfl | rfl | rfl <;> unfold own_first <;> repeat (first | (split <;> try omega) | simp_all)
theorem own_first_iff (U : Nat → Int32) (a b : Nat) (ha : a < 6) (hb : b < 6) : U a = U b ↔ own_first U a = own_first U b := by
  constructor
  · intro h; unfold own_first; rw [h]
  · intro h; rw [← own_first_eq U a ha, ← own_first_eq U b hb, h]
theorem own_e_first (U : Nat → Int32) : own_e U = own_e (own_c (own_first U 1) (own_first U 2) (own_first U 3) (own_first U 4) (own_first U 5)) := by
  funext a b
  have hc : ∀ i, i < 6 → own_c (own_first U 1) (own_first U 2) (own_first U 3) (own_first U 4) (own_first U 5) i = own_first U i := fun i hi => by
    have : i = 0 ∨ i = 1 ∨ i = 2 ∨ i = 3 ∨ i = 4 ∨ i = 5 := by omega
    rcases this with rfl | rfl | rfl | rfl | rfl | rfl <;> first | rfl | (show 0 = own_first U 0; unfold own_first; rw [if_pos rfl])
  unfold own_e
  by_cases ha : a < 6
  · by_cases hb : b < 6
    · simp only [ha, hb, decide_true, Bool.true_and]
      rw [hc a ha, hc b hb, decide_eq_decide]
      exact own_first_iff U a b ha hb
    · simp [hb]
  · simp [ha]
theorem own_law (U : Nat → Int32) (n i : Nat) (hn : n ≤ 6) (hi : i < n) : (own_run (own_e U) n).1 i = own_long (own_e U) (i + 1) := by
  have h := own_all ⟨own_first U 1, by have := own_first_le U 1 (by omega); omega⟩ ⟨own_first U 2, by have := own_first_le U 2 (by omega); omega⟩ ⟨own_first U 3, by have := own_first_le U 3 (by omega); omega⟩ ⟨own_first U 4, by have := own_first_le U 4 (by omega); omega⟩ ⟨own_first U 5, by have := own_first_le U 5 (by omega); omega⟩
  simp only at h
  rw [← own_e_first] at h
  unfold own_good at h
  have h2 := List.all_eq_true.mp (List.all_eq_true.mp h n (List.mem_range.mpr (by omega))) i (List.mem_range.mpr hi)
  exact of_decide_eq_true h2
theorem own_e_in (U : Nat → Int32) (a b : Nat) (ha : a < 6) (hb : b < 6) : own_e U a b = decide (U a = U b) := by simp [own_e, ha, hb]
theorem own_m7 (x : Int32) : ∃ n : Nat, n ≤ 6 ∧ ((x &&& (2147483647 : Int32)) % (7 : Int32)) = Int32.ofNat n := by
  have e1 : (x &&& 2147483647).toInt = x.toInt % 2 ^ 31 := Jvm.Kit.i32_mask x 2147483647 (k := 31) (by decide) (by decide)
  have e2 : ((x &&& 2147483647) % 7).toInt = (x &&& 2147483647).toInt.tmod 7 := Int32.toInt_mod _ _
  have e3 : (x &&& 2147483647).toInt.tmod 7 = (x &&& 2147483647).toInt % 7 := Int.tmod_eq_emod_of_nonneg (by omega)
  refine ⟨((x &&& 2147483647) % 7).toInt.toNat, by omega, ?_⟩
  apply Int32.toInt_inj.mp
  rw [Int32.toInt_ofNat_small (by omega)]
  omega
theorem own_nar (x : Int32) : nar .char (nar .char x) = nar .char x := by
  simp only [nar]
  generalize x.toUInt32.toUInt16 = y
  simp
theorem own_char_nar (x : Int32) : narrow .char (.int x.toUInt32.toUInt16.toUInt32.toInt32) = .int x.toUInt32.toUInt16.toUInt32.toInt32 := by
  generalize x.toUInt32.toUInt16 = y
  simp [narrow]
theorem own_sub (a b : Nat) (h : b ≤ a) : Int32.ofNat a - Int32.ofNat b = Int32.ofNat (a - b) := (Int32.ofNat_sub a b h).symm
theorem own_add (a b : Nat) : Int32.ofNat a + Int32.ofNat b = Int32.ofNat (a + b) := (Int32.ofNat_add a b).symm
theorem own_bf {b : Bool} (h : (if b = true then (1 : Int32) else 0) = 0) : b = false := by cases b <;> simp_all
theorem own_bt {b : Bool} (h : ¬ (if b = true then (1 : Int32) else 0) = 0) : b = true := by cases b <;> simp_all
theorem own_b01 {b : Bool} : (if b = true then (1 : Int32) else 0) = 0 ∨ (if b = true then (1 : Int32) else 0) = 1 := by cases b <;> simp
theorem own_lt {i n : Nat} (hi : i < 2 ^ 31) (hn : n < 2 ^ 31) : Int32.ofNat i < Int32.ofNat n ↔ i < n := by
  rw [Int32.lt_iff_toInt_lt, Int32.toInt_ofNat_small hi, Int32.toInt_ofNat_small hn]; omega
def own_u (ws : List Int32) (j : Nat) : Int32 := nar .char (ws.getD j 0)

theorem pd_0 : parseMethodDescriptor "([CIII)Z" = some ⟨[.array (.char), .int, .int, .int], some (.boolean)⟩ := by decide +kernel
theorem pd_1 : parseMethodDescriptor "([CII)Z" = some ⟨[.array (.char), .int, .int], some (.boolean)⟩ := by decide +kernel
theorem pd_2 : parseMethodDescriptor "([CI)I" = some ⟨[.array (.char), .int], some (.int)⟩ := by decide +kernel
theorem pd_3 : parseMethodDescriptor "(JZ)C" = some ⟨[.long, .boolean], some (.char)⟩ := by decide +kernel
theorem pd_4 : parseMethodDescriptor "([C)[I" = some ⟨[.array (.char)], some (.array (.int))⟩ := by decide +kernel
theorem pd_5 : parseMethodDescriptor "([I[C[CII)Z" = some ⟨[.array (.int), .array (.char), .array (.char), .int, .int], some (.boolean)⟩ := by decide +kernel
theorem d1_0 : decode method_3_code 0 = .ok (.lload_n 0, 1) := by decide +kernel
theorem d1_1 : decode method_3_code 1 = .ok (.ldc2_w 24, 3) := by decide +kernel
theorem d1_4 : decode method_3_code 4 = .ok (.land, 1) := by decide +kernel
theorem d1_5 : decode method_3_code 5 = .ok (.l2i, 1) := by decide +kernel
theorem d1_6 : decode method_3_code 6 = .ok (.istore_n 3, 1) := by decide +kernel
theorem d1_7 : decode method_3_code 7 = .ok (.iload_n 2, 1) := by decide +kernel
theorem d1_8 : decode method_3_code 8 = .ok (.ifCond .eq 9, 3) := by decide +kernel
theorem d1_11 : decode method_3_code 11 = .ok (.iload_n 3, 1) := by decide +kernel
theorem d1_12 : decode method_3_code 12 = .ok (.iconst 1, 1) := by decide +kernel
theorem d1_13 : decode method_3_code 13 = .ok (.iand, 1) := by decide +kernel
theorem d1_14 : decode method_3_code 14 = .ok (.goto 4, 3) := by decide +kernel
theorem d1_17 : decode method_3_code 17 = .ok (.iload_n 3, 1) := by decide +kernel
theorem d1_18 : decode method_3_code 18 = .ok (.i2c, 1) := by decide +kernel
theorem d1_19 : decode method_3_code 19 = .ok (.ireturn, 1) := by decide +kernel
theorem pn_1 : plainFor (⟨"com/example/border/border/BorderTablePrefixFunctionOfPinLaw", "unit", "(JZ)C"⟩ : MethodName) = true := by first | (exact plainFor_of_name (by first | (simp [plainName, overriddenIn, x]; done) | decide +kernel)) | decide +kernel
set_option maxRecDepth 65536 in
set_option maxHeartbeats 40000000 in
theorem rm1 (l : Launch) (Z : State) (a0 : Array Value) (hw : ∀ d ∈ tables_1, d.before a0 Z = true) (p1 : Int64) (p2 : Int32) (h0 : Heap) :
    OMet l Z (⟨"com/example/border/border/BorderTablePrefixFunctionOfPinLaw", "unit", "(JZ)C"⟩ : MethodName) method_3_code 4 (some (.char)) [] ({ frames := 0, cells := 0, slots := 0, locals := 0 } : Room) #[.long p1, .int p2] h0 (fun v h L => ∃ u : Int32, v = some (.int u) ∧ L = [] ∧ h = h0) := by
  refine own_body (Ls := #[.val (.long p1), .second, .val (.int p2), .unset]) pn_1 (fun m => by first | (simp [entryFrame, mkF, argsToLocals, Value.category, maxLocals]; done) | rfl) ?_
  intro p e s m below meth c s₁ X0 hx hby hml hown hnm hret hlk hZ e0
  refine g_lloadN (n := 1) X0 hx (hb hby d1_0) rfl rfl ?_
  refine g_ldc2 (n := 4) X0 hx hZ hown (hw _ (List.mem_of_getElem? (i := 6) rfl)) (hb hby d1_1) rfl ?_
  refine g_land (n := 5) X0 hx (hb hby d1_4) rfl ?_
  refine g_l2i (n := 6) X0 hx (hb hby d1_5) rfl ?_
  refine g_istoreN (n := 7) X0 hx (hb hby d1_6) rfl #[.val (.long p1), .second, .val (.int p2), .val (.int (p1 &&& (65535 : Int64)).toInt32)] rfl ?_
  refine g_iloadN (n := 8) X0 hx (hb hby d1_7) rfl rfl ?_
  refine g_if (n := 17) (n' := 11) X0 hx _ (own_zeq _) (hb hby d1_8) (by decide) (by decide) rfl (fun hc => ?_) (fun hc => ?_)
  · refine g_iloadN (n := 18) X0 hx (hb hby d1_17) rfl rfl ?_
    refine g_i2c (n := 19) X0 hx (hb hby d1_18) rfl ?_
    refine g_retN X0 hx (by simp) (own_char_nar _) hret hlk (hb hby d1_19) (Fe.of (by decide) (by decide)) ?_
    try rw [e0]
    exact ⟨_, rfl, rfl, rfl⟩
  · refine g_iloadN (n := 12) X0 hx (hb hby d1_11) rfl rfl ?_
    refine g_iconst (n := 13) X0 hx (1 : Int32) (hb hby d1_12) rfl rfl ?_
    refine g_iand (n := 14) X0 hx (hb hby d1_13) rfl ?_
    refine g_goto (n := 18) X0 hx (hb hby d1_14) (by decide) (by decide) ?_
    refine g_i2c (n := 19) X0 hx (hb hby d1_18) rfl ?_
    refine g_retN X0 hx (by simp) (own_char_nar _) hret hlk (hb hby d1_19) (Fe.of (by decide) (by decide)) ?_
    try rw [e0]
    exact ⟨_, rfl, rfl, rfl⟩
theorem d6_0 : decode method_5_code 0 = .ok (.iload_n 3, 1) := by decide +kernel
theorem d6_1 : decode method_5_code 1 = .ok (.iload_n 2, 1) := by decide +kernel
theorem d6_2 : decode method_5_code 2 = .ok (.if_icmp .ge 16, 3) := by decide +kernel
theorem d6_5 : decode method_5_code 5 = .ok (.aload_n 0, 1) := by decide +kernel
theorem d6_6 : decode method_5_code 6 = .ok (.iload_n 3, 1) := by decide +kernel
theorem d6_7 : decode method_5_code 7 = .ok (.caload, 1) := by decide +kernel
theorem d6_8 : decode method_5_code 8 = .ok (.aload_n 0, 1) := by decide +kernel
theorem d6_9 : decode method_5_code 9 = .ok (.iload_n 1, 1) := by decide +kernel
theorem d6_10 : decode method_5_code 10 = .ok (.iload_n 2, 1) := by decide +kernel
theorem d6_11 : decode method_5_code 11 = .ok (.isub, 1) := by decide +kernel
theorem d6_12 : decode method_5_code 12 = .ok (.iload_n 3, 1) := by decide +kernel
theorem d6_13 : decode method_5_code 13 = .ok (.iadd, 1) := by decide +kernel
theorem d6_14 : decode method_5_code 14 = .ok (.caload, 1) := by decide +kernel
theorem d6_15 : decode method_5_code 15 = .ok (.if_icmp .ne 7, 3) := by decide +kernel
theorem d6_18 : decode method_5_code 18 = .ok (.iconst 1, 1) := by decide +kernel
theorem d6_19 : decode method_5_code 19 = .ok (.goto 4, 3) := by decide +kernel
theorem d6_22 : decode method_5_code 22 = .ok (.iconst 0, 1) := by decide +kernel
theorem d6_23 : decode method_5_code 23 = .ok (.ireturn, 1) := by decide +kernel
theorem pn_6 : plainFor (⟨"com/example/border/border/BorderTablePrefixFunctionOfPinLaw", "eqAt", "([CIII)Z"⟩ : MethodName) = true := by first | (exact plainFor_of_name (by first | (simp [plainName, overriddenIn, x]; done) | decide +kernel)) | decide +kernel
set_option maxRecDepth 65536 in
set_option maxHeartbeats 40000000 in
theorem rm6 (l : Launch) (Z : State) (a0 : Array Value) (hw : ∀ d ∈ tables_1, d.before a0 Z = true) (a1 : Nat) (U : Nat → Int32) (k b j : Nat) (h0 : Heap) (V : Av Z h0 a1 .char 6 (fun j => .int (U j))) (hbk : b < k) (hk : k ≤ 6) (hj : j < 5) :
    OMet l Z (⟨"com/example/border/border/BorderTablePrefixFunctionOfPinLaw", "eqAt", "([CIII)Z"⟩ : MethodName) method_5_code 4 (some (.boolean)) [] ({ frames := 0, cells := 0, slots := 0, locals := 0 } : Room) #[.ref a1, .int (Int32.ofNat k), .int (Int32.ofNat b), .int (Int32.ofNat j)] h0 (Pu (.int (if own_at (own_e U) k b j = true then 1 else 0)) h0) := by
  refine own_body (Ls := #[.val (.ref a1), .val (.int (Int32.ofNat k)), .val (.int (Int32.ofNat b)), .val (.int (Int32.ofNat j))]) pn_6 (fun m => by first | (simp [entryFrame, mkF, argsToLocals, Value.category, maxLocals]; done) | rfl) ?_
  intro p e s m below meth c s₁ X0 hx hby hml hown hnm hret hlk hZ e0
  refine g_iloadN (n := 1) X0 hx (hb hby d6_0) rfl rfl ?_
  refine g_iloadN (n := 2) X0 hx (hb hby d6_1) rfl rfl ?_
  refine g_icmp (n := 18) (n' := 5) X0 hx _ (own_cge _ _) (hb hby d6_2) (by decide) (by decide) rfl (fun hc1 => ?_) (fun hc1 => ?_)
  · have hc1 := (own_le (by omega) (by omega)).mp hc1
    refine g_iconst (n := 19) X0 hx (1 : Int32) (hb hby d6_18) rfl rfl ?_
    refine g_goto (n := 23) X0 hx (hb hby d6_19) (by decide) (by decide) ?_
    refine g_retZ X0 hx (by decide) hret hlk (hb hby d6_23) (Fe.of (by decide) (by decide)) ?_
    try rw [e0]
    exact ⟨by simp [own_at, hc1], rfl, rfl⟩
  · have hc1 : ¬ b ≤ j := fun q => hc1 ((own_le (by omega) (by omega)).mpr q)
    refine g_aloadN (n := 6) X0 hx (hb hby d6_5) rfl rfl rfl ?_
    refine g_iloadN (n := 7) X0 hx (hb hby d6_6) rfl rfl ?_
    refine g_caload (n := 8) X0 hx hZ e0 V j rfl (by omega) (.int (U j)) rfl (hb hby d6_7) rfl ?_
    refine g_aloadN (n := 9) X0 hx (hb hby d6_8) rfl rfl rfl ?_
    refine g_iloadN (n := 10) X0 hx (hb hby d6_9) rfl rfl ?_
    refine g_iloadN (n := 11) X0 hx (hb hby d6_10) rfl rfl ?_
    refine g_isub (n := 12) X0 hx (hb hby d6_11) rfl ?_
    refine g_iloadN (n := 13) X0 hx (hb hby d6_12) rfl rfl ?_
    refine g_iadd (n := 14) X0 hx (hb hby d6_13) rfl ?_
    rw [own_sub k b (by omega), own_add]
    refine g_caload (n := 15) X0 hx hZ e0 V (k - b + j) rfl (by omega) (.int (U (k - b + j))) rfl (hb hby d6_14) rfl ?_
    have he := own_e_in U j (k - b + j) (by omega) (by omega)
    refine g_icmp (n := 22) (n' := 18) X0 hx _ (own_cne _ _) (hb hby d6_15) (by decide) (by decide) rfl (fun hc2 => ?_) (fun hc2 => ?_)
    · refine g_iconst (n := 23) X0 hx (0 : Int32) (hb hby d6_22) rfl rfl ?_
      refine g_retZ X0 hx (by decide) hret hlk (hb hby d6_23) (Fe.of (by decide) (by decide)) ?_
      try rw [e0]
      exact ⟨by simp [own_at, hc1, he, hc2], rfl, rfl⟩
    · refine g_iconst (n := 19) X0 hx (1 : Int32) (hb hby d6_18) rfl rfl ?_
      refine g_goto (n := 23) X0 hx (hb hby d6_19) (by decide) (by decide) ?_
      refine g_retZ X0 hx (by decide) hret hlk (hb hby d6_23) (Fe.of (by decide) (by decide)) ?_
      try rw [e0]
      exact ⟨by simp [own_at, hc1, he, Classical.not_not.mp hc2], rfl, rfl⟩
theorem d5_0 : decode method_6_code 0 = .ok (.aload_n 0, 1) := by decide +kernel
theorem d5_1 : decode method_6_code 1 = .ok (.iload_n 1, 1) := by decide +kernel
theorem d5_2 : decode method_6_code 2 = .ok (.iload_n 2, 1) := by decide +kernel
theorem d5_3 : decode method_6_code 3 = .ok (.iconst 0, 1) := by decide +kernel
theorem d5_4 : decode method_6_code 4 = .ok (.invokestatic 30, 3) := by decide +kernel
theorem d5_7 : decode method_6_code 7 = .ok (.ifCond .eq 47, 3) := by decide +kernel
theorem d5_10 : decode method_6_code 10 = .ok (.aload_n 0, 1) := by decide +kernel
theorem d5_11 : decode method_6_code 11 = .ok (.iload_n 1, 1) := by decide +kernel
theorem d5_12 : decode method_6_code 12 = .ok (.iload_n 2, 1) := by decide +kernel
theorem d5_13 : decode method_6_code 13 = .ok (.iconst 1, 1) := by decide +kernel
theorem d5_14 : decode method_6_code 14 = .ok (.invokestatic 30, 3) := by decide +kernel
theorem d5_17 : decode method_6_code 17 = .ok (.ifCond .eq 37, 3) := by decide +kernel
theorem d5_20 : decode method_6_code 20 = .ok (.aload_n 0, 1) := by decide +kernel
theorem d5_21 : decode method_6_code 21 = .ok (.iload_n 1, 1) := by decide +kernel
theorem d5_22 : decode method_6_code 22 = .ok (.iload_n 2, 1) := by decide +kernel
theorem d5_23 : decode method_6_code 23 = .ok (.iconst 2, 1) := by decide +kernel
theorem d5_24 : decode method_6_code 24 = .ok (.invokestatic 30, 3) := by decide +kernel
theorem d5_27 : decode method_6_code 27 = .ok (.ifCond .eq 27, 3) := by decide +kernel
theorem d5_30 : decode method_6_code 30 = .ok (.aload_n 0, 1) := by decide +kernel
theorem d5_31 : decode method_6_code 31 = .ok (.iload_n 1, 1) := by decide +kernel
theorem d5_32 : decode method_6_code 32 = .ok (.iload_n 2, 1) := by decide +kernel
theorem d5_33 : decode method_6_code 33 = .ok (.iconst 3, 1) := by decide +kernel
theorem d5_34 : decode method_6_code 34 = .ok (.invokestatic 30, 3) := by decide +kernel
theorem d5_37 : decode method_6_code 37 = .ok (.ifCond .eq 17, 3) := by decide +kernel
theorem d5_40 : decode method_6_code 40 = .ok (.aload_n 0, 1) := by decide +kernel
theorem d5_41 : decode method_6_code 41 = .ok (.iload_n 1, 1) := by decide +kernel
theorem d5_42 : decode method_6_code 42 = .ok (.iload_n 2, 1) := by decide +kernel
theorem d5_43 : decode method_6_code 43 = .ok (.iconst 4, 1) := by decide +kernel
theorem d5_44 : decode method_6_code 44 = .ok (.invokestatic 30, 3) := by decide +kernel
theorem d5_47 : decode method_6_code 47 = .ok (.ifCond .eq 7, 3) := by decide +kernel
theorem d5_50 : decode method_6_code 50 = .ok (.iconst 1, 1) := by decide +kernel
theorem d5_51 : decode method_6_code 51 = .ok (.goto 4, 3) := by decide +kernel
theorem d5_54 : decode method_6_code 54 = .ok (.iconst 0, 1) := by decide +kernel
theorem d5_55 : decode method_6_code 55 = .ok (.ireturn, 1) := by decide +kernel
theorem pn_5 : plainFor (⟨"com/example/border/border/BorderTablePrefixFunctionOfPinLaw", "isBorder", "([CII)Z"⟩ : MethodName) = true := by first | (exact plainFor_of_name (by first | (simp [plainName, overriddenIn, x]; done) | decide +kernel)) | decide +kernel
set_option maxRecDepth 65536 in
set_option maxHeartbeats 40000000 in
theorem rm5 (l : Launch) (Z : State) (a0 : Array Value) (hw : ∀ d ∈ tables_1, d.before a0 Z = true) (a1 : Nat) (U : Nat → Int32) (k b : Nat) (h0 : Heap) (V : Av Z h0 a1 .char 6 (fun j => .int (U j))) (hbk : b < k) (hk : k ≤ 6) :
    OMet l Z (⟨"com/example/border/border/BorderTablePrefixFunctionOfPinLaw", "isBorder", "([CII)Z"⟩ : MethodName) method_6_code 3 (some (.boolean)) [] ({ frames := 1, cells := 0, slots := 0, locals := 15 } : Room) #[.ref a1, .int (Int32.ofNat k), .int (Int32.ofNat b)] h0 (Pu (.int (if own_bor (own_e U) k b = true then 1 else 0)) h0) := by
  refine own_body (Ls := #[.val (.ref a1), .val (.int (Int32.ofNat k)), .val (.int (Int32.ofNat b))]) pn_5 (fun m => by first | (simp [entryFrame, mkF, argsToLocals, Value.category, maxLocals]; done) | rfl) ?_
  intro p e s m below meth c s₁ X0 hx hby hml hown hnm hret hlk hZ e0
  refine g_aloadN (n := 1) X0 hx (hb hby d5_0) rfl rfl rfl ?_
  refine g_iloadN (n := 2) X0 hx (hb hby d5_1) rfl rfl ?_
  refine g_iloadN (n := 3) X0 hx (hb hby d5_2) rfl rfl ?_
  refine g_iconst (n := 4) X0 hx (0 : Int32) (hb hby d5_3) rfl rfl ?_
  refine g_callSP (n := 7) (st := []) X0 hx hZ hown e0 (hw _ (List.mem_of_getElem? (i := 21) rfl)) (hw _ (List.mem_of_getElem? (i := 22) rfl)) (hw _ (List.mem_of_getElem? (i := 4) rfl)) (hw _ (List.mem_of_getElem? (i := 23) rfl)) (by decide) [.ref a1, .int (Int32.ofNat k), .int (Int32.ofNat b), .int (0 : Int32)] (rm6 l Z a0 hw a1 U k b 0 h0 V hbk hk (by decide)) pd_0 rfl (hb hby d5_4) rfl (by rw [hml]; rfl) (by decide) 0 (Nat.le_of_eq rfl) (by decide) (by decide) (by decide) ?_
  intro T11 X11 e11
  refine g_if (n := 54) (n' := 10) X11 hx _ (own_zeq _) (hb hby d5_7) (by decide) (by decide) rfl (fun hc => ?_) (fun hc => ?_)
  · have q0 := own_bf hc
    refine g_iconst (n := 55) X11 hx (0 : Int32) (hb hby d5_54) rfl rfl ?_
    refine g_retZ X11 hx (by decide) hret hlk (hb hby d5_55) (Fe.of (by decide) (by decide)) ?_
    try rw [e11]
    exact ⟨by simp [own_bor, q0], rfl, rfl⟩
  · have q0 := own_bt hc
    refine g_aloadN (n := 11) X11 hx (hb hby d5_10) rfl rfl rfl ?_
    refine g_iloadN (n := 12) X11 hx (hb hby d5_11) rfl rfl ?_
    refine g_iloadN (n := 13) X11 hx (hb hby d5_12) rfl rfl ?_
    refine g_iconst (n := 14) X11 hx (1 : Int32) (hb hby d5_13) rfl rfl ?_
    refine g_callSP (n := 17) (st := []) X11 hx hZ hown e11 (hw _ (List.mem_of_getElem? (i := 21) rfl)) (hw _ (List.mem_of_getElem? (i := 22) rfl)) (hw _ (List.mem_of_getElem? (i := 4) rfl)) (hw _ (List.mem_of_getElem? (i := 23) rfl)) (by decide) [.ref a1, .int (Int32.ofNat k), .int (Int32.ofNat b), .int (1 : Int32)] (rm6 l Z a0 hw a1 U k b 1 h0 V hbk hk (by decide)) pd_0 rfl (hb hby d5_14) rfl (by rw [hml]; rfl) (by decide) 0 (Nat.le_of_eq rfl) (by decide) (by decide) (by decide) ?_
    intro T12 X12 e12
    refine g_if (n := 54) (n' := 20) X12 hx _ (own_zeq _) (hb hby d5_17) (by decide) (by decide) rfl (fun hc => ?_) (fun hc => ?_)
    · have q1 := own_bf hc
      refine g_iconst (n := 55) X12 hx (0 : Int32) (hb hby d5_54) rfl rfl ?_
      refine g_retZ X12 hx (by decide) hret hlk (hb hby d5_55) (Fe.of (by decide) (by decide)) ?_
      try rw [e12]
      exact ⟨by simp [own_bor, q0, q1], rfl, rfl⟩
    · have q1 := own_bt hc
      refine g_aloadN (n := 21) X12 hx (hb hby d5_20) rfl rfl rfl ?_
      refine g_iloadN (n := 22) X12 hx (hb hby d5_21) rfl rfl ?_
      refine g_iloadN (n := 23) X12 hx (hb hby d5_22) rfl rfl ?_
      refine g_iconst (n := 24) X12 hx (2 : Int32) (hb hby d5_23) rfl rfl ?_
      refine g_callSP (n := 27) (st := []) X12 hx hZ hown e12 (hw _ (List.mem_of_getElem? (i := 21) rfl)) (hw _ (List.mem_of_getElem? (i := 22) rfl)) (hw _ (List.mem_of_getElem? (i := 4) rfl)) (hw _ (List.mem_of_getElem? (i := 23) rfl)) (by decide) [.ref a1, .int (Int32.ofNat k), .int (Int32.ofNat b), .int (2 : Int32)] (rm6 l Z a0 hw a1 U k b 2 h0 V hbk hk (by decide)) pd_0 rfl (hb hby d5_24) rfl (by rw [hml]; rfl) (by decide) 0 (Nat.le_of_eq rfl) (by decide) (by decide) (by decide) ?_
      intro T13 X13 e13
      refine g_if (n := 54) (n' := 30) X13 hx _ (own_zeq _) (hb hby d5_27) (by decide) (by decide) rfl (fun hc => ?_) (fun hc => ?_)
      · have q2 := own_bf hc
        refine g_iconst (n := 55) X13 hx (0 : Int32) (hb hby d5_54) rfl rfl ?_
        refine g_retZ X13 hx (by decide) hret hlk (hb hby d5_55) (Fe.of (by decide) (by decide)) ?_
        try rw [e13]
        exact ⟨by simp [own_bor, q0, q1, q2], rfl, rfl⟩
      · have q2 := own_bt hc
        refine g_aloadN (n := 31) X13 hx (hb hby d5_30) rfl rfl rfl ?_
        refine g_iloadN (n := 32) X13 hx (hb hby d5_31) rfl rfl ?_
        refine g_iloadN (n := 33) X13 hx (hb hby d5_32) rfl rfl ?_
        refine g_iconst (n := 34) X13 hx (3 : Int32) (hb hby d5_33) rfl rfl ?_
        refine g_callSP (n := 37) (st := []) X13 hx hZ hown e13 (hw _ (List.mem_of_getElem? (i := 21) rfl)) (hw _ (List.mem_of_getElem? (i := 22) rfl)) (hw _ (List.mem_of_getElem? (i := 4) rfl)) (hw _ (List.mem_of_getElem? (i := 23) rfl)) (by decide) [.ref a1, .int (Int32.ofNat k), .int (Int32.ofNat b), .int (3 : Int32)] (rm6 l Z a0 hw a1 U k b 3 h0 V hbk hk (by decide)) pd_0 rfl (hb hby d5_34) rfl (by rw [hml]; rfl) (by decide) 0 (Nat.le_of_eq rfl) (by decide) (by decide) (by decide) ?_
        intro T14 X14 e14
        refine g_if (n := 54) (n' := 40) X14 hx _ (own_zeq _) (hb hby d5_37) (by decide) (by decide) rfl (fun hc => ?_) (fun hc => ?_)
        · have q3 := own_bf hc
          refine g_iconst (n := 55) X14 hx (0 : Int32) (hb hby d5_54) rfl rfl ?_
          refine g_retZ X14 hx (by decide) hret hlk (hb hby d5_55) (Fe.of (by decide) (by decide)) ?_
          try rw [e14]
          exact ⟨by simp [own_bor, q0, q1, q2, q3], rfl, rfl⟩
        · have q3 := own_bt hc
          refine g_aloadN (n := 41) X14 hx (hb hby d5_40) rfl rfl rfl ?_
          refine g_iloadN (n := 42) X14 hx (hb hby d5_41) rfl rfl ?_
          refine g_iloadN (n := 43) X14 hx (hb hby d5_42) rfl rfl ?_
          refine g_iconst (n := 44) X14 hx (4 : Int32) (hb hby d5_43) rfl rfl ?_
          refine g_callSP (n := 47) (st := []) X14 hx hZ hown e14 (hw _ (List.mem_of_getElem? (i := 21) rfl)) (hw _ (List.mem_of_getElem? (i := 22) rfl)) (hw _ (List.mem_of_getElem? (i := 4) rfl)) (hw _ (List.mem_of_getElem? (i := 23) rfl)) (by decide) [.ref a1, .int (Int32.ofNat k), .int (Int32.ofNat b), .int (4 : Int32)] (rm6 l Z a0 hw a1 U k b 4 h0 V hbk hk (by decide)) pd_0 rfl (hb hby d5_44) rfl (by rw [hml]; rfl) (by decide) 0 (Nat.le_of_eq rfl) (by decide) (by decide) (by decide) ?_
          intro T15 X15 e15
          refine g_if (n := 54) (n' := 50) X15 hx _ (own_zeq _) (hb hby d5_47) (by decide) (by decide) rfl (fun hc => ?_) (fun hc => ?_)
          · have q4 := own_bf hc
            refine g_iconst (n := 55) X15 hx (0 : Int32) (hb hby d5_54) rfl rfl ?_
            refine g_retZ X15 hx (by decide) hret hlk (hb hby d5_55) (Fe.of (by decide) (by decide)) ?_
            try rw [e15]
            exact ⟨by simp [own_bor, q0, q1, q2, q3, q4], rfl, rfl⟩
          · have q4 := own_bt hc
            refine g_iconst (n := 51) X15 hx (1 : Int32) (hb hby d5_50) rfl rfl ?_
            refine g_goto (n := 55) X15 hx (hb hby d5_51) (by decide) (by decide) ?_
            refine g_retZ X15 hx (by decide) hret hlk (hb hby d5_55) (Fe.of (by decide) (by decide)) ?_
            try rw [e15]
            exact ⟨by simp [own_bor, q0, q1, q2, q3, q4], rfl, rfl⟩
theorem d4_0 : decode method_7_code 0 = .ok (.iconst 5, 1) := by decide +kernel
theorem d4_1 : decode method_7_code 1 = .ok (.iload_n 1, 1) := by decide +kernel
theorem d4_2 : decode method_7_code 2 = .ok (.if_icmp .ge 14, 3) := by decide +kernel
theorem d4_5 : decode method_7_code 5 = .ok (.aload_n 0, 1) := by decide +kernel
theorem d4_6 : decode method_7_code 6 = .ok (.iload_n 1, 1) := by decide +kernel
theorem d4_7 : decode method_7_code 7 = .ok (.iconst 5, 1) := by decide +kernel
theorem d4_8 : decode method_7_code 8 = .ok (.invokestatic 34, 3) := by decide +kernel
theorem d4_11 : decode method_7_code 11 = .ok (.ifCond .eq 5, 3) := by decide +kernel
theorem d4_14 : decode method_7_code 14 = .ok (.iconst 5, 1) := by decide +kernel
theorem d4_15 : decode method_7_code 15 = .ok (.ireturn, 1) := by decide +kernel
theorem d4_16 : decode method_7_code 16 = .ok (.iconst 4, 1) := by decide +kernel
theorem d4_17 : decode method_7_code 17 = .ok (.iload_n 1, 1) := by decide +kernel
theorem d4_18 : decode method_7_code 18 = .ok (.if_icmp .ge 14, 3) := by decide +kernel
theorem d4_21 : decode method_7_code 21 = .ok (.aload_n 0, 1) := by decide +kernel
theorem d4_22 : decode method_7_code 22 = .ok (.iload_n 1, 1) := by decide +kernel
theorem d4_23 : decode method_7_code 23 = .ok (.iconst 4, 1) := by decide +kernel
theorem d4_24 : decode method_7_code 24 = .ok (.invokestatic 34, 3) := by decide +kernel
theorem d4_27 : decode method_7_code 27 = .ok (.ifCond .eq 5, 3) := by decide +kernel
theorem d4_30 : decode method_7_code 30 = .ok (.iconst 4, 1) := by decide +kernel
theorem d4_31 : decode method_7_code 31 = .ok (.ireturn, 1) := by decide +kernel
theorem d4_32 : decode method_7_code 32 = .ok (.iconst 3, 1) := by decide +kernel
theorem d4_33 : decode method_7_code 33 = .ok (.iload_n 1, 1) := by decide +kernel
theorem d4_34 : decode method_7_code 34 = .ok (.if_icmp .ge 14, 3) := by decide +kernel
theorem d4_37 : decode method_7_code 37 = .ok (.aload_n 0, 1) := by decide +kernel
theorem d4_38 : decode method_7_code 38 = .ok (.iload_n 1, 1) := by decide +kernel
theorem d4_39 : decode method_7_code 39 = .ok (.iconst 3, 1) := by decide +kernel
theorem d4_40 : decode method_7_code 40 = .ok (.invokestatic 34, 3) := by decide +kernel
theorem d4_43 : decode method_7_code 43 = .ok (.ifCond .eq 5, 3) := by decide +kernel
theorem d4_46 : decode method_7_code 46 = .ok (.iconst 3, 1) := by decide +kernel
theorem d4_47 : decode method_7_code 47 = .ok (.ireturn, 1) := by decide +kernel
theorem d4_48 : decode method_7_code 48 = .ok (.iconst 2, 1) := by decide +kernel
theorem d4_49 : decode method_7_code 49 = .ok (.iload_n 1, 1) := by decide +kernel
theorem d4_50 : decode method_7_code 50 = .ok (.if_icmp .ge 14, 3) := by decide +kernel
theorem d4_53 : decode method_7_code 53 = .ok (.aload_n 0, 1) := by decide +kernel
theorem d4_54 : decode method_7_code 54 = .ok (.iload_n 1, 1) := by decide +kernel
theorem d4_55 : decode method_7_code 55 = .ok (.iconst 2, 1) := by decide +kernel
theorem d4_56 : decode method_7_code 56 = .ok (.invokestatic 34, 3) := by decide +kernel
theorem d4_59 : decode method_7_code 59 = .ok (.ifCond .eq 5, 3) := by decide +kernel
theorem d4_62 : decode method_7_code 62 = .ok (.iconst 2, 1) := by decide +kernel
theorem d4_63 : decode method_7_code 63 = .ok (.ireturn, 1) := by decide +kernel
theorem d4_64 : decode method_7_code 64 = .ok (.iconst 1, 1) := by decide +kernel
theorem d4_65 : decode method_7_code 65 = .ok (.iload_n 1, 1) := by decide +kernel
theorem d4_66 : decode method_7_code 66 = .ok (.if_icmp .ge 14, 3) := by decide +kernel
theorem d4_69 : decode method_7_code 69 = .ok (.aload_n 0, 1) := by decide +kernel
theorem d4_70 : decode method_7_code 70 = .ok (.iload_n 1, 1) := by decide +kernel
theorem d4_71 : decode method_7_code 71 = .ok (.iconst 1, 1) := by decide +kernel
theorem d4_72 : decode method_7_code 72 = .ok (.invokestatic 34, 3) := by decide +kernel
theorem d4_75 : decode method_7_code 75 = .ok (.ifCond .eq 5, 3) := by decide +kernel
theorem d4_78 : decode method_7_code 78 = .ok (.iconst 1, 1) := by decide +kernel
theorem d4_79 : decode method_7_code 79 = .ok (.ireturn, 1) := by decide +kernel
theorem d4_80 : decode method_7_code 80 = .ok (.iconst 0, 1) := by decide +kernel
theorem d4_81 : decode method_7_code 81 = .ok (.ireturn, 1) := by decide +kernel
theorem pn_4 : plainFor (⟨"com/example/border/border/BorderTablePrefixFunctionOfPinLaw", "longest", "([CI)I"⟩ : MethodName) = true := by first | (exact plainFor_of_name (by first | (simp [plainName, overriddenIn, x]; done) | decide +kernel)) | decide +kernel
set_option maxRecDepth 65536 in
set_option maxHeartbeats 40000000 in
theorem rm4 (l : Launch) (Z : State) (a0 : Array Value) (hw : ∀ d ∈ tables_1, d.before a0 Z = true) (a1 : Nat) (U : Nat → Int32) (k : Nat) (h0 : Heap) (V : Av Z h0 a1 .char 6 (fun j => .int (U j))) (hk : k ≤ 6) :
    OMet l Z (⟨"com/example/border/border/BorderTablePrefixFunctionOfPinLaw", "longest", "([CI)I"⟩ : MethodName) method_7_code 2 (some (.int)) [] ({ frames := 2, cells := 0, slots := 0, locals := 29 } : Room) #[.ref a1, .int (Int32.ofNat k)] h0 (Pu (.int (Int32.ofNat (own_long (own_e U) k))) h0) := by
  refine own_body (Ls := #[.val (.ref a1), .val (.int (Int32.ofNat k))]) pn_4 (fun m => by first | (simp [entryFrame, mkF, argsToLocals, Value.category, maxLocals]; done) | rfl) ?_
  intro p e s m below meth c s₁ X0 hx hby hml hown hnm hret hlk hZ e0
  have J0 : ∀ T, Stand p l e ({ frames := 2, cells := 0, slots := 0, locals := 29 } : Room) s m #[.ref a1, .int (Int32.ofNat k)] below meth c T [] 0 0 → T.heap = h0 → ¬ (5 < k ∧ own_bor (own_e U) k 5 = true) → ¬ (4 < k ∧ own_bor (own_e U) k 4 = true) → ¬ (3 < k ∧ own_bor (own_e U) k 3 = true) → ¬ (2 < k ∧ own_bor (own_e U) k 2 = true) → ¬ (1 < k ∧ own_bor (own_e U) k 1 = true) → Go p e below (Fe s ({ frames := 2, cells := 0, slots := 0, locals := 29 } : Room).cells ({ frames := 2, cells := 0, slots := 0, locals := 29 } : Room).slots) (Pu (.int (Int32.ofNat (own_long (own_e U) k))) h0) T (mkF m 80 #[.val (.ref a1), .val (.int (Int32.ofNat k))] []) := by
    intro T X e1 r5 r4 r3 r2 r1
    refine g_iconst (n := 81) X hx (0 : Int32) (hb hby d4_80) rfl rfl ?_
    refine g_retI X hx hret hlk (hb hby d4_81) (Fe.of (by decide) (by decide)) ?_
    try rw [e1]
    exact ⟨by simp only [own_long, r5, r4, r3, r2, r1, if_false]; rfl, rfl, rfl⟩
  have J1 : ∀ T, Stand p l e ({ frames := 2, cells := 0, slots := 0, locals := 29 } : Room) s m #[.ref a1, .int (Int32.ofNat k)] below meth c T [] 0 0 → T.heap = h0 → ¬ (5 < k ∧ own_bor (own_e U) k 5 = true) → ¬ (4 < k ∧ own_bor (own_e U) k 4 = true) → ¬ (3 < k ∧ own_bor (own_e U) k 3 = true) → ¬ (2 < k ∧ own_bor (own_e U) k 2 = true) → Go p e below (Fe s ({ frames := 2, cells := 0, slots := 0, locals := 29 } : Room).cells ({ frames := 2, cells := 0, slots := 0, locals := 29 } : Room).slots) (Pu (.int (Int32.ofNat (own_long (own_e U) k))) h0) T (mkF m 64 #[.val (.ref a1), .val (.int (Int32.ofNat k))] []) := by
    intro T X e1 r5 r4 r3 r2
    refine g_iconst (n := 65) X hx (1 : Int32) (hb hby d4_64) rfl rfl ?_
    refine g_iloadN (n := 66) X hx (hb hby d4_65) rfl rfl ?_
    refine g_icmp (n := 80) (n' := 69) X hx _ (own_cge _ _) (hb hby d4_66) (by decide) (by decide) rfl (fun hc => ?_) (fun hc => ?_)
    · have r1 : ¬ (1 < k ∧ own_bor (own_e U) k 1 = true) := fun q => absurd q.1 (Nat.not_lt.mpr ((own_le (n := k) (i := 1) (by omega) (by omega)).mp hc))
      exact J0 _ X e1 r5 r4 r3 r2 r1
    · have g1 : 1 < k := Nat.not_le.mp (fun q => hc ((own_le (n := k) (i := 1) (by omega) (by omega)).mpr q))
      refine g_aloadN (n := 70) X hx (hb hby d4_69) rfl rfl rfl ?_
      refine g_iloadN (n := 71) X hx (hb hby d4_70) rfl rfl ?_
      refine g_iconst (n := 72) X hx (1 : Int32) (hb hby d4_71) rfl rfl ?_
      refine g_callSP (n := 75) (st := []) X hx hZ hown e1 (hw _ (List.mem_of_getElem? (i := 18) rfl)) (hw _ (List.mem_of_getElem? (i := 19) rfl)) (hw _ (List.mem_of_getElem? (i := 4) rfl)) (hw _ (List.mem_of_getElem? (i := 20) rfl)) (by decide) [.ref a1, .int (Int32.ofNat k), .int (1 : Int32)] (rm5 l Z a0 hw a1 U k 1 h0 V g1 hk) pd_1 rfl (hb hby d4_72) rfl (by rw [hml]; rfl) (by decide) 0 (Nat.le_of_eq rfl) (by decide) (by decide) (by decide) ?_
      intro T11 X11 e11
      refine g_if (n := 80) (n' := 78) X11 hx _ (own_zeq _) (hb hby d4_75) (by decide) (by decide) rfl (fun hc => ?_) (fun hc => ?_)
      · have r1 : ¬ (1 < k ∧ own_bor (own_e U) k 1 = true) := fun q => by have := own_bf hc; rw [q.2] at this; cases this
        exact J0 _ X11 e11 r5 r4 r3 r2 r1
      · have t1 : 1 < k ∧ own_bor (own_e U) k 1 = true := ⟨g1, own_bt hc⟩
        refine g_iconst (n := 79) X11 hx (1 : Int32) (hb hby d4_78) rfl rfl ?_
        refine g_retI X11 hx hret hlk (hb hby d4_79) (Fe.of (by decide) (by decide)) ?_
        try rw [e11]
        exact ⟨by simp only [own_long, r5, r4, r3, r2, t1, if_true, if_false, and_self]; rfl, rfl, rfl⟩
  have J2 : ∀ T, Stand p l e ({ frames := 2, cells := 0, slots := 0, locals := 29 } : Room) s m #[.ref a1, .int (Int32.ofNat k)] below meth c T [] 0 0 → T.heap = h0 → ¬ (5 < k ∧ own_bor (own_e U) k 5 = true) → ¬ (4 < k ∧ own_bor (own_e U) k 4 = true) → ¬ (3 < k ∧ own_bor (own_e U) k 3 = true) → Go p e below (Fe s ({ frames := 2, cells := 0, slots := 0, locals := 29 } : Room).cells ({ frames := 2, cells := 0, slots := 0, locals := 29 } : Room).slots) (Pu (.int (Int32.ofNat (own_long (own_e U) k))) h0) T (mkF m 48 #[.val (.ref a1), .val (.int (Int32.ofNat k))] []) := by
    intro T X e1 r5 r4 r3
    refine g_iconst (n := 49) X hx (2 : Int32) (hb hby d4_48) rfl rfl ?_
    refine g_iloadN (n := 50) X hx (hb hby d4_49) rfl rfl ?_
    refine g_icmp (n := 64) (n' := 53) X hx _ (own_cge _ _) (hb hby d4_50) (by decide) (by decide) rfl (fun hc => ?_) (fun hc => ?_)
    · have r2 : ¬ (2 < k ∧ own_bor (own_e U) k 2 = true) := fun q => absurd q.1 (Nat.not_lt.mpr ((own_le (n := k) (i := 2) (by omega) (by omega)).mp hc))
      exact J1 _ X e1 r5 r4 r3 r2
    · have g2 : 2 < k := Nat.not_le.mp (fun q => hc ((own_le (n := k) (i := 2) (by omega) (by omega)).mpr q))
      refine g_aloadN (n := 54) X hx (hb hby d4_53) rfl rfl rfl ?_
      refine g_iloadN (n := 55) X hx (hb hby d4_54) rfl rfl ?_
      refine g_iconst (n := 56) X hx (2 : Int32) (hb hby d4_55) rfl rfl ?_
      refine g_callSP (n := 59) (st := []) X hx hZ hown e1 (hw _ (List.mem_of_getElem? (i := 18) rfl)) (hw _ (List.mem_of_getElem? (i := 19) rfl)) (hw _ (List.mem_of_getElem? (i := 4) rfl)) (hw _ (List.mem_of_getElem? (i := 20) rfl)) (by decide) [.ref a1, .int (Int32.ofNat k), .int (2 : Int32)] (rm5 l Z a0 hw a1 U k 2 h0 V g2 hk) pd_1 rfl (hb hby d4_56) rfl (by rw [hml]; rfl) (by decide) 0 (Nat.le_of_eq rfl) (by decide) (by decide) (by decide) ?_
      intro T11 X11 e11
      refine g_if (n := 64) (n' := 62) X11 hx _ (own_zeq _) (hb hby d4_59) (by decide) (by decide) rfl (fun hc => ?_) (fun hc => ?_)
      · have r2 : ¬ (2 < k ∧ own_bor (own_e U) k 2 = true) := fun q => by have := own_bf hc; rw [q.2] at this; cases this
        exact J1 _ X11 e11 r5 r4 r3 r2
      · have t2 : 2 < k ∧ own_bor (own_e U) k 2 = true := ⟨g2, own_bt hc⟩
        refine g_iconst (n := 63) X11 hx (2 : Int32) (hb hby d4_62) rfl rfl ?_
        refine g_retI X11 hx hret hlk (hb hby d4_63) (Fe.of (by decide) (by decide)) ?_
        try rw [e11]
        exact ⟨by simp only [own_long, r5, r4, r3, t2, if_true, if_false, and_self]; rfl, rfl, rfl⟩
  have J3 : ∀ T, Stand p l e ({ frames := 2, cells := 0, slots := 0, locals := 29 } : Room) s m #[.ref a1, .int (Int32.ofNat k)] below meth c T [] 0 0 → T.heap = h0 → ¬ (5 < k ∧ own_bor (own_e U) k 5 = true) → ¬ (4 < k ∧ own_bor (own_e U) k 4 = true) → Go p e below (Fe s ({ frames := 2, cells := 0, slots := 0, locals := 29 } : Room).cells ({ frames := 2, cells := 0, slots := 0, locals := 29 } : Room).slots) (Pu (.int (Int32.ofNat (own_long (own_e U) k))) h0) T (mkF m 32 #[.val (.ref a1), .val (.int (Int32.ofNat k))] []) := by
    intro T X e1 r5 r4
    refine g_iconst (n := 33) X hx (3 : Int32) (hb hby d4_32) rfl rfl ?_
    refine g_iloadN (n := 34) X hx (hb hby d4_33) rfl rfl ?_
    refine g_icmp (n := 48) (n' := 37) X hx _ (own_cge _ _) (hb hby d4_34) (by decide) (by decide) rfl (fun hc => ?_) (fun hc => ?_)
    · have r3 : ¬ (3 < k ∧ own_bor (own_e U) k 3 = true) := fun q => absurd q.1 (Nat.not_lt.mpr ((own_le (n := k) (i := 3) (by omega) (by omega)).mp hc))
      exact J2 _ X e1 r5 r4 r3
    · have g3 : 3 < k := Nat.not_le.mp (fun q => hc ((own_le (n := k) (i := 3) (by omega) (by omega)).mpr q))
      refine g_aloadN (n := 38) X hx (hb hby d4_37) rfl rfl rfl ?_
      refine g_iloadN (n := 39) X hx (hb hby d4_38) rfl rfl ?_
      refine g_iconst (n := 40) X hx (3 : Int32) (hb hby d4_39) rfl rfl ?_
      refine g_callSP (n := 43) (st := []) X hx hZ hown e1 (hw _ (List.mem_of_getElem? (i := 18) rfl)) (hw _ (List.mem_of_getElem? (i := 19) rfl)) (hw _ (List.mem_of_getElem? (i := 4) rfl)) (hw _ (List.mem_of_getElem? (i := 20) rfl)) (by decide) [.ref a1, .int (Int32.ofNat k), .int (3 : Int32)] (rm5 l Z a0 hw a1 U k 3 h0 V g3 hk) pd_1 rfl (hb hby d4_40) rfl (by rw [hml]; rfl) (by decide) 0 (Nat.le_of_eq rfl) (by decide) (by decide) (by decide) ?_
      intro T11 X11 e11
      refine g_if (n := 48) (n' := 46) X11 hx _ (own_zeq _) (hb hby d4_43) (by decide) (by decide) rfl (fun hc => ?_) (fun hc => ?_)
      · have r3 : ¬ (3 < k ∧ own_bor (own_e U) k 3 = true) := fun q => by have := own_bf hc; rw [q.2] at this; cases this
        exact J2 _ X11 e11 r5 r4 r3
      · have t3 : 3 < k ∧ own_bor (own_e U) k 3 = true := ⟨g3, own_bt hc⟩
        refine g_iconst (n := 47) X11 hx (3 : Int32) (hb hby d4_46) rfl rfl ?_
        refine g_retI X11 hx hret hlk (hb hby d4_47) (Fe.of (by decide) (by decide)) ?_
        try rw [e11]
        exact ⟨by simp only [own_long, r5, r4, t3, if_true, if_false, and_self]; rfl, rfl, rfl⟩
  have J4 : ∀ T, Stand p l e ({ frames := 2, cells := 0, slots := 0, locals := 29 } : Room) s m #[.ref a1, .int (Int32.ofNat k)] below meth c T [] 0 0 → T.heap = h0 → ¬ (5 < k ∧ own_bor (own_e U) k 5 = true) → Go p e below (Fe s ({ frames := 2, cells := 0, slots := 0, locals := 29 } : Room).cells ({ frames := 2, cells := 0, slots := 0, locals := 29 } : Room).slots) (Pu (.int (Int32.ofNat (own_long (own_e U) k))) h0) T (mkF m 16 #[.val (.ref a1), .val (.int (Int32.ofNat k))] []) := by
    intro T X e1 r5
    refine g_iconst (n := 17) X hx (4 : Int32) (hb hby d4_16) rfl rfl ?_
    refine g_iloadN (n := 18) X hx (hb hby d4_17) rfl rfl ?_
    refine g_icmp (n := 32) (n' := 21) X hx _ (own_cge _ _) (hb hby d4_18) (by decide) (by decide) rfl (fun hc => ?_) (fun hc => ?_)
    · have r4 : ¬ (4 < k ∧ own_bor (own_e U) k 4 = true) := fun q => absurd q.1 (Nat.not_lt.mpr ((own_le (n := k) (i := 4) (by omega) (by omega)).mp hc))
      exact J3 _ X e1 r5 r4
    · have g4 : 4 < k := Nat.not_le.mp (fun q => hc ((own_le (n := k) (i := 4) (by omega) (by omega)).mpr q))
      refine g_aloadN (n := 22) X hx (hb hby d4_21) rfl rfl rfl ?_
      refine g_iloadN (n := 23) X hx (hb hby d4_22) rfl rfl ?_
      refine g_iconst (n := 24) X hx (4 : Int32) (hb hby d4_23) rfl rfl ?_
      refine g_callSP (n := 27) (st := []) X hx hZ hown e1 (hw _ (List.mem_of_getElem? (i := 18) rfl)) (hw _ (List.mem_of_getElem? (i := 19) rfl)) (hw _ (List.mem_of_getElem? (i := 4) rfl)) (hw _ (List.mem_of_getElem? (i := 20) rfl)) (by decide) [.ref a1, .int (Int32.ofNat k), .int (4 : Int32)] (rm5 l Z a0 hw a1 U k 4 h0 V g4 hk) pd_1 rfl (hb hby d4_24) rfl (by rw [hml]; rfl) (by decide) 0 (Nat.le_of_eq rfl) (by decide) (by decide) (by decide) ?_
      intro T11 X11 e11
      refine g_if (n := 32) (n' := 30) X11 hx _ (own_zeq _) (hb hby d4_27) (by decide) (by decide) rfl (fun hc => ?_) (fun hc => ?_)
      · have r4 : ¬ (4 < k ∧ own_bor (own_e U) k 4 = true) := fun q => by have := own_bf hc; rw [q.2] at this; cases this
        exact J3 _ X11 e11 r5 r4
      · have t4 : 4 < k ∧ own_bor (own_e U) k 4 = true := ⟨g4, own_bt hc⟩
        refine g_iconst (n := 31) X11 hx (4 : Int32) (hb hby d4_30) rfl rfl ?_
        refine g_retI X11 hx hret hlk (hb hby d4_31) (Fe.of (by decide) (by decide)) ?_
        try rw [e11]
        exact ⟨by simp only [own_long, r5, t4, if_true, if_false, and_self]; rfl, rfl, rfl⟩
  refine g_iconst (n := 1) X0 hx (5 : Int32) (hb hby d4_0) rfl rfl ?_
  refine g_iloadN (n := 2) X0 hx (hb hby d4_1) rfl rfl ?_
  refine g_icmp (n := 16) (n' := 5) X0 hx _ (own_cge _ _) (hb hby d4_2) (by decide) (by decide) rfl (fun hc => ?_) (fun hc => ?_)
  · have r5 : ¬ (5 < k ∧ own_bor (own_e U) k 5 = true) := fun q => absurd q.1 (Nat.not_lt.mpr ((own_le (n := k) (i := 5) (by omega) (by omega)).mp hc))
    exact J4 _ X0 e0 r5
  · have g5 : 5 < k := Nat.not_le.mp (fun q => hc ((own_le (n := k) (i := 5) (by omega) (by omega)).mpr q))
    refine g_aloadN (n := 6) X0 hx (hb hby d4_5) rfl rfl rfl ?_
    refine g_iloadN (n := 7) X0 hx (hb hby d4_6) rfl rfl ?_
    refine g_iconst (n := 8) X0 hx (5 : Int32) (hb hby d4_7) rfl rfl ?_
    refine g_callSP (n := 11) (st := []) X0 hx hZ hown e0 (hw _ (List.mem_of_getElem? (i := 18) rfl)) (hw _ (List.mem_of_getElem? (i := 19) rfl)) (hw _ (List.mem_of_getElem? (i := 4) rfl)) (hw _ (List.mem_of_getElem? (i := 20) rfl)) (by decide) [.ref a1, .int (Int32.ofNat k), .int (5 : Int32)] (rm5 l Z a0 hw a1 U k 5 h0 V g5 hk) pd_1 rfl (hb hby d4_8) rfl (by rw [hml]; rfl) (by decide) 0 (Nat.le_of_eq rfl) (by decide) (by decide) (by decide) ?_
    intro T11 X11 e11
    refine g_if (n := 16) (n' := 14) X11 hx _ (own_zeq _) (hb hby d4_11) (by decide) (by decide) rfl (fun hc => ?_) (fun hc => ?_)
    · have r5 : ¬ (5 < k ∧ own_bor (own_e U) k 5 = true) := fun q => by have := own_bf hc; rw [q.2] at this; cases this
      exact J4 _ X11 e11 r5
    · have t5 : 5 < k ∧ own_bor (own_e U) k 5 = true := ⟨g5, own_bt hc⟩
      refine g_iconst (n := 15) X11 hx (5 : Int32) (hb hby d4_14) rfl rfl ?_
      refine g_retI X11 hx hret hlk (hb hby d4_15) (Fe.of (by decide) (by decide)) ?_
      try rw [e11]
      exact ⟨by simp only [own_long, t5, if_true, if_false, and_self]; rfl, rfl, rfl⟩
theorem d3_0 : decode method_4_code 0 = .ok (.iload 4, 2) := by decide +kernel
theorem d3_2 : decode method_4_code 2 = .ok (.iload_n 3, 1) := by decide +kernel
theorem d3_3 : decode method_4_code 3 = .ok (.if_icmp .lt 5, 3) := by decide +kernel
theorem d3_6 : decode method_4_code 6 = .ok (.iconst 1, 1) := by decide +kernel
theorem d3_7 : decode method_4_code 7 = .ok (.ireturn, 1) := by decide +kernel
theorem d3_8 : decode method_4_code 8 = .ok (.aload_n 1, 1) := by decide +kernel
theorem d3_9 : decode method_4_code 9 = .ok (.iload 4, 2) := by decide +kernel
theorem d3_11 : decode method_4_code 11 = .ok (.caload, 1) := by decide +kernel
theorem d3_12 : decode method_4_code 12 = .ok (.aload_n 2, 1) := by decide +kernel
theorem d3_13 : decode method_4_code 13 = .ok (.iload 4, 2) := by decide +kernel
theorem d3_15 : decode method_4_code 15 = .ok (.caload, 1) := by decide +kernel
theorem d3_16 : decode method_4_code 16 = .ok (.if_icmp .ne 22, 3) := by decide +kernel
theorem d3_19 : decode method_4_code 19 = .ok (.aload_n 0, 1) := by decide +kernel
theorem d3_20 : decode method_4_code 20 = .ok (.iload 4, 2) := by decide +kernel
theorem d3_22 : decode method_4_code 22 = .ok (.iaload, 1) := by decide +kernel
theorem d3_23 : decode method_4_code 23 = .ok (.aload_n 2, 1) := by decide +kernel
theorem d3_24 : decode method_4_code 24 = .ok (.iload 4, 2) := by decide +kernel
theorem d3_26 : decode method_4_code 26 = .ok (.iconst 1, 1) := by decide +kernel
theorem d3_27 : decode method_4_code 27 = .ok (.iadd, 1) := by decide +kernel
theorem d3_28 : decode method_4_code 28 = .ok (.invokestatic 26, 3) := by decide +kernel
theorem d3_31 : decode method_4_code 31 = .ok (.if_icmp .ne 7, 3) := by decide +kernel
theorem d3_34 : decode method_4_code 34 = .ok (.iconst 1, 1) := by decide +kernel
theorem d3_35 : decode method_4_code 35 = .ok (.goto 4, 3) := by decide +kernel
theorem d3_38 : decode method_4_code 38 = .ok (.iconst 0, 1) := by decide +kernel
theorem d3_39 : decode method_4_code 39 = .ok (.ireturn, 1) := by decide +kernel
theorem pn_3 : plainFor (⟨"com/example/border/border/BorderTablePrefixFunctionOfPinLaw", "ok", "([I[C[CII)Z"⟩ : MethodName) = true := by first | (exact plainFor_of_name (by first | (simp [plainName, overriddenIn, x]; done) | decide +kernel)) | decide +kernel
set_option maxRecDepth 65536 in
set_option maxHeartbeats 40000000 in
theorem rm3 (l : Launch) (Z : State) (a0 : Array Value) (hw : ∀ d ∈ tables_1, d.before a0 Z = true) (a1 a2 a3 : Nat) (U : Nat → Int32) (pf : Nat → Nat) (n i : Nat) (h0 : Heap) (V1 : Av Z h0 a1 .int n (fun j => .int (Int32.ofNat (pf j)))) (V2 : Av Z h0 a2 .char n (fun j => .int (U j))) (V3 : Av Z h0 a3 .char 6 (fun j => .int (U j))) (hn : n ≤ 6) (hi6 : i < 6) (hp : ∀ j, j < n → pf j = own_long (own_e U) (j + 1)) :
    OMet l Z (⟨"com/example/border/border/BorderTablePrefixFunctionOfPinLaw", "ok", "([I[C[CII)Z"⟩ : MethodName) method_4_code 5 (some (.boolean)) [] ({ frames := 3, cells := 0, slots := 0, locals := 43 } : Room) #[.ref a1, .ref a2, .ref a3, .int (Int32.ofNat n), .int (Int32.ofNat i)] h0 (Pu (.int 1) h0) := by
  refine own_body (Ls := #[.val (.ref a1), .val (.ref a2), .val (.ref a3), .val (.int (Int32.ofNat n)), .val (.int (Int32.ofNat i))]) pn_3 (fun m => by first | (simp [entryFrame, mkF, argsToLocals, Value.category, maxLocals]; done) | rfl) ?_
  intro p e s m below meth c s₁ X0 hx hby hml hown hnm hret hlk hZ e0
  refine g_iload (n := 2) X0 hx (hb hby d3_0) rfl rfl ?_
  refine g_iloadN (n := 3) X0 hx (hb hby d3_2) rfl rfl ?_
  refine g_icmp (n := 8) (n' := 6) X0 hx _ (own_clt _ _) (hb hby d3_3) (by decide) (by decide) rfl (fun hc => ?_) (fun hc => ?_)
  · have hi := (own_lt (by omega) (by omega)).mp hc
    refine g_aloadN (n := 9) X0 hx (hb hby d3_8) rfl rfl rfl ?_
    refine g_iload (n := 11) X0 hx (hb hby d3_9) rfl rfl ?_
    refine g_caload (n := 12) X0 hx hZ e0 V2 i rfl hi (.int (U i)) rfl (hb hby d3_11) rfl ?_
    refine g_aloadN (n := 13) X0 hx (hb hby d3_12) rfl rfl rfl ?_
    refine g_iload (n := 15) X0 hx (hb hby d3_13) rfl rfl ?_
    refine g_caload (n := 16) X0 hx hZ e0 V3 i rfl (by omega) (.int (U i)) rfl (hb hby d3_15) rfl ?_
    refine g_icmp (n := 38) (n' := 19) X0 hx _ (own_cne _ _) (hb hby d3_16) (by decide) (by decide) rfl (fun hc => absurd hc (fun q => q rfl)) (fun _ => ?_)
    refine g_aloadN (n := 20) X0 hx (hb hby d3_19) rfl rfl rfl ?_
    refine g_iload (n := 22) X0 hx (hb hby d3_20) rfl rfl ?_
    refine g_iaload (n := 23) X0 hx hZ e0 V1 i rfl hi (.int (Int32.ofNat (own_long (own_e U) (i + 1)))) (congrArg (fun q => Value.int (Int32.ofNat q)) (hp i hi)) (hb hby d3_22) rfl ?_
    refine g_aloadN (n := 24) X0 hx (hb hby d3_23) rfl rfl rfl ?_
    refine g_iload (n := 26) X0 hx (hb hby d3_24) rfl rfl ?_
    refine g_iconst (n := 27) X0 hx (1 : Int32) (hb hby d3_26) rfl rfl ?_
    refine g_iadd (n := 28) X0 hx (hb hby d3_27) rfl ?_
    rw [show Int32.ofNat i + (1 : Int32) = Int32.ofNat (i + 1) from own_inc i]
    refine g_callSP (n := 31) (st := [(.int (Int32.ofNat (own_long (own_e U) (i + 1))))]) X0 hx hZ hown e0 (hw _ (List.mem_of_getElem? (i := 15) rfl)) (hw _ (List.mem_of_getElem? (i := 16) rfl)) (hw _ (List.mem_of_getElem? (i := 4) rfl)) (hw _ (List.mem_of_getElem? (i := 17) rfl)) (by decide) [.ref a3, .int (Int32.ofNat (i + 1))] (rm4 l Z a0 hw a3 U (i + 1) h0 V3 (by omega)) pd_2 rfl (hb hby d3_28) rfl (by rw [hml]; rfl) (by decide) 1 (Nat.le_of_eq rfl) (by decide) (by decide) (by decide) ?_
    intro T11 X11 e11
    refine g_icmp (n := 38) (n' := 34) X11 hx _ (own_cne _ _) (hb hby d3_31) (by decide) (by decide) rfl (fun hc => absurd hc (fun q => q rfl)) (fun _ => ?_)
    refine g_iconst (n := 35) X11 hx (1 : Int32) (hb hby d3_34) rfl rfl ?_
    refine g_goto (n := 39) X11 hx (hb hby d3_35) (by decide) (by decide) ?_
    refine g_retZ X11 hx (by decide) hret hlk (hb hby d3_39) (Fe.of (by decide) (by decide)) ?_
    try rw [e11]
    exact ⟨rfl, rfl, rfl⟩
  · refine g_iconst (n := 7) X0 hx (1 : Int32) (hb hby d3_6) rfl rfl ?_
    refine g_retZ X0 hx (by decide) hret hlk (hb hby d3_7) (Fe.of (by decide) (by decide)) ?_
    try rw [e0]
    exact ⟨rfl, rfl, rfl⟩
theorem d2_0 : decode prog_1_method_3_code 0 = .ok (.aload_n 0, 1) := by decide +kernel
theorem d2_1 : decode prog_1_method_3_code 1 = .ok (.arraylength, 1) := by decide +kernel
theorem d2_2 : decode prog_1_method_3_code 2 = .ok (.istore_n 1, 1) := by decide +kernel
theorem d2_3 : decode prog_1_method_3_code 3 = .ok (.iload_n 1, 1) := by decide +kernel
theorem d2_4 : decode prog_1_method_3_code 4 = .ok (.newarray .int, 2) := by decide +kernel
theorem d2_6 : decode prog_1_method_3_code 6 = .ok (.astore_n 2, 1) := by decide +kernel
theorem d2_7 : decode prog_1_method_3_code 7 = .ok (.iconst 0, 1) := by decide +kernel
theorem d2_8 : decode prog_1_method_3_code 8 = .ok (.istore_n 3, 1) := by decide +kernel
theorem d2_9 : decode prog_1_method_3_code 9 = .ok (.iconst 1, 1) := by decide +kernel
theorem d2_10 : decode prog_1_method_3_code 10 = .ok (.istore 4, 2) := by decide +kernel
theorem d2_12 : decode prog_1_method_3_code 12 = .ok (.iload 4, 2) := by decide +kernel
theorem d2_14 : decode prog_1_method_3_code 14 = .ok (.iload_n 1, 1) := by decide +kernel
theorem d2_15 : decode prog_1_method_3_code 15 = .ok (.if_icmp .ge 52, 3) := by decide +kernel
theorem d2_18 : decode prog_1_method_3_code 18 = .ok (.aload_n 0, 1) := by decide +kernel
theorem d2_19 : decode prog_1_method_3_code 19 = .ok (.iload 4, 2) := by decide +kernel
theorem d2_21 : decode prog_1_method_3_code 21 = .ok (.caload, 1) := by decide +kernel
theorem d2_22 : decode prog_1_method_3_code 22 = .ok (.istore 5, 2) := by decide +kernel
theorem d2_24 : decode prog_1_method_3_code 24 = .ok (.iload_n 3, 1) := by decide +kernel
theorem d2_25 : decode prog_1_method_3_code 25 = .ok (.ifCond .le 20, 3) := by decide +kernel
theorem d2_28 : decode prog_1_method_3_code 28 = .ok (.aload_n 0, 1) := by decide +kernel
theorem d2_29 : decode prog_1_method_3_code 29 = .ok (.iload_n 3, 1) := by decide +kernel
theorem d2_30 : decode prog_1_method_3_code 30 = .ok (.caload, 1) := by decide +kernel
theorem d2_31 : decode prog_1_method_3_code 31 = .ok (.iload 5, 2) := by decide +kernel
theorem d2_33 : decode prog_1_method_3_code 33 = .ok (.if_icmp .eq 12, 3) := by decide +kernel
theorem d2_36 : decode prog_1_method_3_code 36 = .ok (.aload_n 2, 1) := by decide +kernel
theorem d2_37 : decode prog_1_method_3_code 37 = .ok (.iload_n 3, 1) := by decide +kernel
theorem d2_38 : decode prog_1_method_3_code 38 = .ok (.iconst 1, 1) := by decide +kernel
theorem d2_39 : decode prog_1_method_3_code 39 = .ok (.isub, 1) := by decide +kernel
theorem d2_40 : decode prog_1_method_3_code 40 = .ok (.iaload, 1) := by decide +kernel
theorem d2_41 : decode prog_1_method_3_code 41 = .ok (.istore_n 3, 1) := by decide +kernel
theorem d2_42 : decode prog_1_method_3_code 42 = .ok (.goto (-18), 3) := by decide +kernel
theorem d2_45 : decode prog_1_method_3_code 45 = .ok (.aload_n 0, 1) := by decide +kernel
theorem d2_46 : decode prog_1_method_3_code 46 = .ok (.iload_n 3, 1) := by decide +kernel
theorem d2_47 : decode prog_1_method_3_code 47 = .ok (.caload, 1) := by decide +kernel
theorem d2_48 : decode prog_1_method_3_code 48 = .ok (.iload 5, 2) := by decide +kernel
theorem d2_50 : decode prog_1_method_3_code 50 = .ok (.if_icmp .ne 6, 3) := by decide +kernel
theorem d2_53 : decode prog_1_method_3_code 53 = .ok (.iinc 3 1, 3) := by decide +kernel
theorem d2_56 : decode prog_1_method_3_code 56 = .ok (.aload_n 2, 1) := by decide +kernel
theorem d2_57 : decode prog_1_method_3_code 57 = .ok (.iload 4, 2) := by decide +kernel
theorem d2_59 : decode prog_1_method_3_code 59 = .ok (.iload_n 3, 1) := by decide +kernel
theorem d2_60 : decode prog_1_method_3_code 60 = .ok (.iastore, 1) := by decide +kernel
theorem d2_61 : decode prog_1_method_3_code 61 = .ok (.iinc 4 1, 3) := by decide +kernel
theorem d2_64 : decode prog_1_method_3_code 64 = .ok (.goto (-52), 3) := by decide +kernel
theorem d2_67 : decode prog_1_method_3_code 67 = .ok (.aload_n 2, 1) := by decide +kernel
theorem d2_68 : decode prog_1_method_3_code 68 = .ok (.areturn, 1) := by decide +kernel
theorem pn_2 : plainFor (⟨"com/example/border/border/BorderTable", "prefixFunctionOf", "([C)[I"⟩ : MethodName) = true := by first | (exact plainFor_of_name (by first | (simp [plainName, overriddenIn, x]; done) | decide +kernel)) | decide +kernel
set_option maxRecDepth 65536 in
set_option maxHeartbeats 40000000 in
theorem rm2 (l : Launch) (Z : State) (a0 : Array Value) (hw : ∀ d ∈ tables_1, d.before a0 Z = true) (a1 : Nat) (U : Nat → Int32) (n n0 : Nat) (h0 : Heap) (V : Av Z h0 a1 .char n (fun j => .int (U j))) (hn : n ≤ 6) (Z0 : n0 ≤ h0.size) :
    OMet l Z (⟨"com/example/border/border/BorderTable", "prefixFunctionOf", "([C)[I"⟩ : MethodName) prog_1_method_3_code 6 (some (.array (.int))) [] ({ frames := 0, cells := 1, slots := 6, locals := 0 } : Room) #[.ref a1] h0 (fun v h L => ∃ r, v = some (.ref r) ∧ Fr n0 L ∧ Keep h0 h [] ∧ Av Z h r .int n (fun j => .int (Int32.ofNat ((own_run (own_e U) (max n 1)).1 j)))) := by
  refine own_body (Ls := #[.val (.ref a1), .unset, .unset, .unset, .unset, .unset]) pn_2 (fun m => by first | (simp [entryFrame, mkF, argsToLocals, Value.category, maxLocals]; done) | rfl) ?_
  intro p e s m below meth c s₁ X0 hx hby hml hown hnm hret hlk hZ e0
  refine g_aloadN (n := 1) X0 hx (hb hby d2_0) rfl rfl rfl ?_
  refine g_len (n := 2) X0 hx hZ e0 V (hb hby d2_1) rfl ?_
  refine g_istoreN (n := 3) X0 hx (hb hby d2_2) rfl #[.val (.ref a1), .val (.int (Int32.ofNat n)), .unset, .unset, .unset, .unset] rfl ?_
  refine g_iloadN (n := 4) X0 hx (hb hby d2_3) rfl rfl ?_
  refine g_newarray (n := 6) X0 hx hZ .int rfl (hw _ (List.mem_of_getElem? (i := 11) rfl)) e0 n rfl 6 hn (by decide) (by decide) (by decide) (hb hby d2_4) rfl ?_
  intro T11 h11 a11 X11 e11 z11 E11 A11
  refine g_astoreN (n := 7) X11 hx (hb hby d2_6) rfl rfl #[.val (.ref a1), .val (.int (Int32.ofNat n)), .val (.ref a11), .unset, .unset, .unset] rfl ?_
  refine g_iconst (n := 8) X11 hx (0 : Int32) (hb hby d2_7) rfl rfl ?_
  refine g_istoreN (n := 9) X11 hx (hb hby d2_8) rfl #[.val (.ref a1), .val (.int (Int32.ofNat n)), .val (.ref a11), .val (.int (0 : Int32)), .unset, .unset] rfl ?_
  refine g_iconst (n := 10) X11 hx (1 : Int32) (hb hby d2_9) rfl rfl ?_
  refine g_istore (n := 12) X11 hx (hb hby d2_10) rfl #[.val (.ref a1), .val (.int (Int32.ofNat n)), .val (.ref a11), .val (.int (0 : Int32)), .val (.int (1 : Int32)), .unset] rfl ?_
  have V0 := V.ext E11
  have ga : h0.size ≤ a11 := by omega
  have loop : ∀ (d i : Nat) (s5 : Slot) (T : State) (h : Heap) (L : List Loc), 1 ≤ i → i + d = max n 1 → (s5 = .unset ∨ ∃ w5 : Int32, s5 = .val (.int w5)) → Stand p l e ({ frames := 0, cells := 1, slots := 6, locals := 0 } : Room) s m #[.ref a1] below meth c T L (0 + 1) (0 + 6) → T.heap = h → Fr n0 L → Keep h0 h [] → Av Z h a1 .char n (fun j => .int (U j)) → Av Z h a11 .int n (fun j => .int (Int32.ofNat ((own_run (own_e U) i).1 j))) → Go p e below (Fe s ({ frames := 0, cells := 1, slots := 6, locals := 0 } : Room).cells ({ frames := 0, cells := 1, slots := 6, locals := 0 } : Room).slots) (fun v h L => ∃ r, v = some (.ref r) ∧ Fr n0 L ∧ Keep h0 h [] ∧ Av Z h r .int n (fun j => .int (Int32.ofNat ((own_run (own_e U) (max n 1)).1 j)))) T (mkF m 12 #[.val (.ref a1), .val (.int (Int32.ofNat n)), .val (.ref a11), .val (.int (Int32.ofNat (own_run (own_e U) i).2)), .val (.int (Int32.ofNat i)), s5] []) := by
    intro d; induction d with
    | zero =>
      intro i s5 T h L hi1 hd h5 X e1 NL KL VU VR
      have hd' : i = max n 1 := by omega
      refine g_iload (n := 14) X hx (hb hby d2_12) rfl rfl ?_
      refine g_iloadN (n := 15) X hx (hb hby d2_14) rfl rfl ?_
      refine g_icmp (n := 67) (n' := 18) X hx _ (own_cge _ _) (hb hby d2_15) (by decide) (by decide) rfl (fun _ => ?_) (fun hc => absurd ((own_le (by omega) (by omega)).mpr (by omega)) hc)
      refine g_aloadN (n := 68) X hx (hb hby d2_67) rfl rfl rfl ?_
      refine g_retA X hx hret rfl rfl hlk (hb hby d2_68) (Fe.of (by decide) (by decide)) ?_
      try rw [e1]
      exact ⟨a11, rfl, NL, KL, by rw [← hd']; exact VR⟩
    | succ d ih =>
      intro i s5 T h L hi1 hd h5 X e1 NL KL VU VR
      have hin : i < n := by omega
      obtain ⟨iv1, iv2⟩ := own_inv (own_e U) i hi1
      have hle := own_inn_le (own_e U) (own_run (own_e U) i).1 i iv2
      refine g_iload (n := 14) X hx (hb hby d2_12) rfl rfl ?_
      refine g_iloadN (n := 15) X hx (hb hby d2_14) rfl rfl ?_
      refine g_icmp (n := 67) (n' := 18) X hx _ (own_cge _ _) (hb hby d2_15) (by decide) (by decide) rfl (fun hc => absurd hc (fun q => absurd ((own_le (by omega) (by omega)).mp q) (by omega))) (fun _ => ?_)
      refine g_aloadN (n := 19) X hx (hb hby d2_18) rfl rfl rfl ?_
      refine g_iload (n := 21) X hx (hb hby d2_19) rfl rfl ?_
      refine g_caload (n := 22) X hx hZ e1 VU i rfl hin (.int (U i)) rfl (hb hby d2_21) rfl ?_
      refine g_istore (n := 24) X hx (hb hby d2_22) rfl #[.val (.ref a1), .val (.int (Int32.ofNat n)), .val (.ref a11), .val (.int (Int32.ofNat (own_run (own_e U) i).2)), .val (.int (Int32.ofNat i)), .val (.int (U i))] (by rcases h5 with rfl | ⟨w5, rfl⟩ <;> rfl) ?_
      have inner : ∀ (f k : Nat), k ≤ f → k < i → Go p e below (Fe s ({ frames := 0, cells := 1, slots := 6, locals := 0 } : Room).cells ({ frames := 0, cells := 1, slots := 6, locals := 0 } : Room).slots) (fun v h L => ∃ r, v = some (.ref r) ∧ Fr n0 L ∧ Keep h0 h [] ∧ Av Z h r .int n (fun j => .int (Int32.ofNat ((own_run (own_e U) (max n 1)).1 j)))) T (mkF m 45 #[.val (.ref a1), .val (.int (Int32.ofNat n)), .val (.ref a11), .val (.int (Int32.ofNat (own_inn (own_e U) (own_run (own_e U) i).1 i f k))), .val (.int (Int32.ofNat i)), .val (.int (U i))] []) → Go p e below (Fe s ({ frames := 0, cells := 1, slots := 6, locals := 0 } : Room).cells ({ frames := 0, cells := 1, slots := 6, locals := 0 } : Room).slots) (fun v h L => ∃ r, v = some (.ref r) ∧ Fr n0 L ∧ Keep h0 h [] ∧ Av Z h r .int n (fun j => .int (Int32.ofNat ((own_run (own_e U) (max n 1)).1 j)))) T (mkF m 24 #[.val (.ref a1), .val (.int (Int32.ofNat n)), .val (.ref a11), .val (.int (Int32.ofNat k)), .val (.int (Int32.ofNat i)), .val (.int (U i))] []) := by
        intro f; induction f with
        | zero =>
          intro k hk hki hgo
          have hk0 : k = 0 := by omega
          refine g_iloadN (n := 25) X hx (hb hby d2_24) rfl rfl ?_
          refine g_if (n := 45) (n' := 28) X hx _ (own_zle _) (hb hby d2_25) (by decide) (by decide) rfl (fun _ => ?_) (fun hc => absurd ((own_le (n := k) (i := 0) (by omega) (by omega)).mpr (by omega)) hc)
          exact hgo
        | succ f ihf =>
          intro k hk hki hgo
          refine g_iloadN (n := 25) X hx (hb hby d2_24) rfl rfl ?_
          refine g_if (n := 45) (n' := 28) X hx _ (own_zle _) (hb hby d2_25) (by decide) (by decide) rfl (fun hc => ?_) (fun hc => ?_)
          · have hk0 : k = 0 := by have := (own_le (n := k) (i := 0) (by omega) (by omega)).mp hc; omega
            rw [own_inn, if_pos (Or.inl hk0)] at hgo
            exact hgo
          · have hk0 : ¬ k = 0 := fun r0 => hc ((own_le (n := k) (i := 0) (by omega) (by omega)).mpr (by omega))
            refine g_aloadN (n := 29) X hx (hb hby d2_28) rfl rfl rfl ?_
            refine g_iloadN (n := 30) X hx (hb hby d2_29) rfl rfl ?_
            refine g_caload (n := 31) X hx hZ e1 VU k rfl (by omega) (.int (U k)) rfl (hb hby d2_30) rfl ?_
            refine g_iload (n := 33) X hx (hb hby d2_31) rfl rfl ?_
            refine g_icmp (n := 45) (n' := 36) X hx _ (own_ceq _ _) (hb hby d2_33) (by decide) (by decide) rfl (fun hc2 => ?_) (fun hc2 => ?_)
            · rw [own_inn, if_pos (Or.inr (by rw [own_e_in U k i (by omega) (by omega)]; exact decide_eq_true hc2))] at hgo
              exact hgo
            · rw [own_inn, if_neg (fun q => q.elim hk0 (fun q => by rw [own_e_in U k i (by omega) (by omega)] at q; exact hc2 (of_decide_eq_true q)))] at hgo
              refine g_aloadN (n := 37) X hx (hb hby d2_36) rfl rfl rfl ?_
              refine g_iloadN (n := 38) X hx (hb hby d2_37) rfl rfl ?_
              refine g_iconst (n := 39) X hx (1 : Int32) (hb hby d2_38) rfl rfl ?_
              refine g_isub (n := 40) X hx (hb hby d2_39) rfl ?_
              rw [show Int32.ofNat k - (1 : Int32) = Int32.ofNat (k - 1) from own_sub k 1 (by omega)]
              refine g_iaload (n := 41) X hx hZ e1 VR (k - 1) rfl (by omega) (.int (Int32.ofNat ((own_run (own_e U) i).1 (k - 1)))) rfl (hb hby d2_40) rfl ?_
              refine g_istoreN (n := 42) X hx (hb hby d2_41) rfl #[.val (.ref a1), .val (.int (Int32.ofNat n)), .val (.ref a11), .val (.int (Int32.ofNat ((own_run (own_e U) i).1 (k - 1)))), .val (.int (Int32.ofNat i)), .val (.int (U i))] rfl ?_
              refine g_goto (n := 24) X hx (hb hby d2_42) (by decide) (by decide) ?_
              have hrk := iv2 (k - 1) (by omega)
              exact ihf _ (by omega) (by omega) hgo
      refine inner _ _ (Nat.le_refl _) iv1 ?_
      have hkk := hle (own_run (own_e U) i).2 (own_run (own_e U) i).2 iv1
      have hrs := own_run_succ (own_e U) i hi1
      generalize own_inn (own_e U) (own_run (own_e U) i).1 i (own_run (own_e U) i).2 (own_run (own_e U) i).2 = k at *
      refine g_aloadN (n := 46) X hx (hb hby d2_45) rfl rfl rfl ?_
      refine g_iloadN (n := 47) X hx (hb hby d2_46) rfl rfl ?_
      refine g_caload (n := 48) X hx hZ e1 VU k rfl (by omega) (.int (U k)) rfl (hb hby d2_47) rfl ?_
      refine g_iload (n := 50) X hx (hb hby d2_48) rfl rfl ?_
      have hek := own_e_in U k i (by omega) (by omega)
      refine g_icmp (n := 56) (n' := 53) X hx _ (own_cne _ _) (hb hby d2_50) (by decide) (by decide) rfl (fun hc => ?_) (fun hc => ?_)
      · refine g_aloadN (n := 57) X hx (hb hby d2_56) rfl rfl rfl ?_
        refine g_iload (n := 59) X hx (hb hby d2_57) rfl rfl ?_
        refine g_iloadN (n := 60) X hx (hb hby d2_59) rfl rfl ?_
        refine g_iastore (n := 61) X hx hZ e1 VR i rfl hin (hb hby d2_60) rfl ?_
        intro T12 h12 X12 e12 W12 A12
        refine g_iinc (n := 64) X12 hx (hb hby d2_61) rfl rfl (Int32.ofNat (i + 1)) (own_inc i) #[.val (.ref a1), .val (.int (Int32.ofNat n)), .val (.ref a11), .val (.int (Int32.ofNat k)), .val (.int (Int32.ofNat (i + 1))), .val (.int (U i))] rfl ?_
        refine g_goto (n := 12) X12 hx (hb hby d2_64) (by decide) (by decide) ?_
        have er : own_run (own_e U) (i + 1) = (fun j => if j = i then k else (own_run (own_e U) i).1 j, k) := by rw [hrs]; simp only [hek, decide_eq_true_eq, hc, if_false]
        have hne : a1 ≠ a11 := by have := V.lt; omega
        have G := ih (i + 1) (.val (.int (U i))) T12 h12 _ (by omega) (by omega) (Or.inr ⟨_, rfl⟩) X12 e12 (Fr.snoc X12 NL (Nat.le_trans Z0 ga)) (KL.wr W12 (Or.inr ga)) (VU.other W12 hne) (by rw [er]; exact A12.congr (fun j hj => by by_cases q : j = i <;> simp [q]))
        rw [er] at G
        exact G
      · refine g_iinc (n := 56) X hx (hb hby d2_53) rfl rfl (Int32.ofNat (k + 1)) (own_inc k) #[.val (.ref a1), .val (.int (Int32.ofNat n)), .val (.ref a11), .val (.int (Int32.ofNat (k + 1))), .val (.int (Int32.ofNat i)), .val (.int (U i))] rfl ?_
        refine g_aloadN (n := 57) X hx (hb hby d2_56) rfl rfl rfl ?_
        refine g_iload (n := 59) X hx (hb hby d2_57) rfl rfl ?_
        refine g_iloadN (n := 60) X hx (hb hby d2_59) rfl rfl ?_
        refine g_iastore (n := 61) X hx hZ e1 VR i rfl hin (hb hby d2_60) rfl ?_
        intro T13 h13 X13 e13 W13 A13
        refine g_iinc (n := 64) X13 hx (hb hby d2_61) rfl rfl (Int32.ofNat (i + 1)) (own_inc i) #[.val (.ref a1), .val (.int (Int32.ofNat n)), .val (.ref a11), .val (.int (Int32.ofNat (k + 1))), .val (.int (Int32.ofNat (i + 1))), .val (.int (U i))] rfl ?_
        refine g_goto (n := 12) X13 hx (hb hby d2_64) (by decide) (by decide) ?_
        have er : own_run (own_e U) (i + 1) = (fun j => if j = i then (k + 1) else (own_run (own_e U) i).1 j, (k + 1)) := by rw [hrs]; simp only [hek, decide_eq_true_eq, Classical.not_not.mp hc, if_true]
        have hne : a1 ≠ a11 := by have := V.lt; omega
        have G := ih (i + 1) (.val (.int (U i))) T13 h13 _ (by omega) (by omega) (Or.inr ⟨_, rfl⟩) X13 e13 (Fr.snoc X13 NL (Nat.le_trans Z0 ga)) (KL.wr W13 (Or.inr ga)) (VU.other W13 hne) (by rw [er]; exact A13.congr (fun j hj => by by_cases q : j = i <;> simp [q]))
        rw [er] at G
        exact G
  exact loop (max n 1 - 1) 1 .unset T11 h11 [] (by omega) (by omega) (Or.inl rfl) X11 e11 (Fr.nil n0) ((Keep.refl _ _).ext E11) V0 (A11.congr (fun j hj => rfl))
theorem pn_0 : plainFor x = true := by first | (exact plainFor_of_name (by first | (simp [plainName, overriddenIn, x]; done) | decide +kernel)) | decide +kernel
set_option maxRecDepth 65536 in
set_option maxHeartbeats 40000000 in
theorem rm0 (l : Launch) (Z : State) (a0 : Array Value) (hw : ∀ d ∈ tables_1, d.before a0 Z = true) (p1 p2 p3 : Int64) (p4 : Int32) (h0 : Heap) :
    OMet l Z x code maxLocals ret tables_1 room_1 #[.long p1, .long p2, .long p3, .int p4] h0 (fun v h L => v = some (.int 1) ∧ Fr h0.size L) := by
  refine own_body (Ls := #[.val (.long p1), .second, .val (.long p2), .second, .val (.long p3), .second, .val (.int p4), .unset, .unset, .unset, .unset, .unset]) pn_0 (fun m => by first | (simp [entryFrame, mkF, argsToLocals, Value.category, maxLocals]; done) | rfl) ?_
  intro p e s m below meth c s₁ X0 hx hby hml hown hnm hret hlk hZ e0
  refine g_iload (n := 2) X0 hx (hb hby at_0) rfl rfl ?_
  refine g_ldcI (n := 4) X0 hx hZ hown (hw _ (List.mem_of_getElem? (i := 0) rfl)) (hb hby at_2) rfl ?_
  refine g_iand (n := 5) X0 hx (hb hby at_4) rfl ?_
  refine g_bipush (n := 7) X0 hx (7 : Int32) (hb hby at_5) rfl rfl ?_
  refine g_irem (n := 8) X0 hx (hb hby at_7) rfl (by decide) ?_
  obtain ⟨n, hn, en⟩ := own_m7 p4
  rw [en]
  refine g_istore (n := 10) X0 hx (hb hby at_8) rfl #[.val (.long p1), .second, .val (.long p2), .second, .val (.long p3), .second, .val (.int p4), .val (.int (Int32.ofNat n)), .unset, .unset, .unset, .unset] rfl ?_
  refine g_iload (n := 12) X0 hx (hb hby at_10) rfl rfl ?_
  refine g_bipush (n := 14) X0 hx (8 : Int32) (hb hby at_12) rfl rfl ?_
  refine g_iushr (n := 15) X0 hx (hb hby at_14) rfl ?_
  refine g_iconst (n := 16) X0 hx (1 : Int32) (hb hby at_15) rfl rfl ?_
  refine g_iand (n := 17) X0 hx (hb hby at_16) rfl ?_
  suffices hJ : ∀ bb : Int32, Go p e below (Fe s room_1.cells room_1.slots) (fun v h L => v = some (.int 1) ∧ Fr h0.size L) s₁ (mkF m 25 #[.val (.long p1), .second, .val (.long p2), .second, .val (.long p3), .second, .val (.int p4), .val (.int (Int32.ofNat n)), .unset, .unset, .unset, .unset] [(.int bb)]) by
    refine g_if (n := 24) (n' := 20) X0 hx _ (own_zeq _) (hb hby at_17) (by decide) (by decide) rfl (fun hc => ?_) (fun hc => ?_)
    · refine g_iconst (n := 25) X0 hx (0 : Int32) (hb hby at_24) rfl rfl ?_
      exact hJ _
    · refine g_iconst (n := 21) X0 hx (1 : Int32) (hb hby at_20) rfl rfl ?_
      refine g_goto (n := 25) X0 hx (hb hby at_21) (by decide) (by decide) ?_
      exact hJ _
  intro bb
  refine g_istore (n := 27) X0 hx (hb hby at_25) rfl #[.val (.long p1), .second, .val (.long p2), .second, .val (.long p3), .second, .val (.int p4), .val (.int (Int32.ofNat n)), .val (.int bb), .unset, .unset, .unset] rfl ?_
  refine g_bipush (n := 29) X0 hx (6 : Int32) (hb hby at_27) rfl rfl ?_
  refine g_newarray (n := 31) X0 hx hZ .char rfl (hw _ (List.mem_of_getElem? (i := 1) rfl)) e0 6 rfl 6 (by decide) (by decide) (by decide) (by decide) (hb hby at_29) rfl ?_
  intro T11 h11 a11 X11 e11 z11 E11 A11
  refine g_astore (n := 33) X11 hx (hb hby at_31) rfl rfl #[.val (.long p1), .second, .val (.long p2), .second, .val (.long p3), .second, .val (.int p4), .val (.int (Int32.ofNat n)), .val (.int bb), .val (.ref a11), .unset, .unset] rfl ?_
  refine g_aload (n := 35) X11 hx (hb hby at_33) rfl rfl rfl ?_
  refine g_iconst (n := 36) X11 hx (0 : Int32) (hb hby at_35) rfl rfl ?_
  refine g_lloadN (n := 37) X11 hx (hb hby at_36) rfl rfl ?_
  refine g_iload (n := 39) X11 hx (hb hby at_37) rfl rfl ?_
  have gal : h0.size ≤ a11 := by omega
  refine g_callS (n := 42) (st := [(.int (0 : Int32)), (.ref a11)]) X11 hx hZ hown e11 (hw _ (List.mem_of_getElem? (i := 2) rfl)) (hw _ (List.mem_of_getElem? (i := 3) rfl)) (hw _ (List.mem_of_getElem? (i := 4) rfl)) (hw _ (List.mem_of_getElem? (i := 5) rfl)) (by decide) [.long p1, .int bb] (rm1 l Z a0 hw p1 bb h11) pd_3 rfl (hb hby at_39) rfl (by rw [hml]; rfl) (by decide) 2 (Nat.le_of_eq rfl) (by decide) (by decide) (by decide) ?_
  intro T12 h12 v12 L12 X12 e12 Q12
  obtain ⟨u0, rfl, rfl, rfl⟩ := Q12
  rw [List.append_nil] at X12
  refine g_castore (n := 43) X12 hx hZ e12 A11 0 rfl (by decide) (hb hby at_42) rfl ?_
  intro T13 h13 X13 e13 W13 A13
  refine g_aload (n := 45) X13 hx (hb hby at_43) rfl rfl rfl ?_
  refine g_iconst (n := 46) X13 hx (1 : Int32) (hb hby at_45) rfl rfl ?_
  refine g_lloadN (n := 47) X13 hx (hb hby at_46) rfl rfl ?_
  refine g_bipush (n := 49) X13 hx (16 : Int32) (hb hby at_47) rfl rfl ?_
  refine g_lushr (n := 50) X13 hx (hb hby at_49) rfl ?_
  refine g_iload (n := 52) X13 hx (hb hby at_50) rfl rfl ?_
  refine g_callS (n := 55) (st := [(.int (1 : Int32)), (.ref a11)]) X13 hx hZ hown e13 (hw _ (List.mem_of_getElem? (i := 2) rfl)) (hw _ (List.mem_of_getElem? (i := 3) rfl)) (hw _ (List.mem_of_getElem? (i := 4) rfl)) (hw _ (List.mem_of_getElem? (i := 5) rfl)) (by decide) [.long (XT.ushrL p1 (16 : Int32)), .int bb] (rm1 l Z a0 hw (XT.ushrL p1 (16 : Int32)) bb h13) pd_3 rfl (hb hby at_52) rfl (by rw [hml]; rfl) (by decide) 2 (Nat.le_of_eq rfl) (by decide) (by decide) (by decide) ?_
  intro T14 h14 v14 L14 X14 e14 Q14
  obtain ⟨u1, rfl, rfl, rfl⟩ := Q14
  rw [List.append_nil] at X14
  refine g_castore (n := 56) X14 hx hZ e14 A13 1 rfl (by decide) (hb hby at_55) rfl ?_
  intro T15 h15 X15 e15 W15 A15
  refine g_aload (n := 58) X15 hx (hb hby at_56) rfl rfl rfl ?_
  refine g_iconst (n := 59) X15 hx (2 : Int32) (hb hby at_58) rfl rfl ?_
  refine g_lloadN (n := 60) X15 hx (hb hby at_59) rfl rfl ?_
  refine g_iload (n := 62) X15 hx (hb hby at_60) rfl rfl ?_
  refine g_callS (n := 65) (st := [(.int (2 : Int32)), (.ref a11)]) X15 hx hZ hown e15 (hw _ (List.mem_of_getElem? (i := 2) rfl)) (hw _ (List.mem_of_getElem? (i := 3) rfl)) (hw _ (List.mem_of_getElem? (i := 4) rfl)) (hw _ (List.mem_of_getElem? (i := 5) rfl)) (by decide) [.long p2, .int bb] (rm1 l Z a0 hw p2 bb h15) pd_3 rfl (hb hby at_62) rfl (by rw [hml]; rfl) (by decide) 2 (Nat.le_of_eq rfl) (by decide) (by decide) (by decide) ?_
  intro T16 h16 v16 L16 X16 e16 Q16
  obtain ⟨u2, rfl, rfl, rfl⟩ := Q16
  rw [List.append_nil] at X16
  refine g_castore (n := 66) X16 hx hZ e16 A15 2 rfl (by decide) (hb hby at_65) rfl ?_
  intro T17 h17 X17 e17 W17 A17
  refine g_aload (n := 68) X17 hx (hb hby at_66) rfl rfl rfl ?_
  refine g_iconst (n := 69) X17 hx (3 : Int32) (hb hby at_68) rfl rfl ?_
  refine g_lloadN (n := 70) X17 hx (hb hby at_69) rfl rfl ?_
  refine g_bipush (n := 72) X17 hx (16 : Int32) (hb hby at_70) rfl rfl ?_
  refine g_lushr (n := 73) X17 hx (hb hby at_72) rfl ?_
  refine g_iload (n := 75) X17 hx (hb hby at_73) rfl rfl ?_
  refine g_callS (n := 78) (st := [(.int (3 : Int32)), (.ref a11)]) X17 hx hZ hown e17 (hw _ (List.mem_of_getElem? (i := 2) rfl)) (hw _ (List.mem_of_getElem? (i := 3) rfl)) (hw _ (List.mem_of_getElem? (i := 4) rfl)) (hw _ (List.mem_of_getElem? (i := 5) rfl)) (by decide) [.long (XT.ushrL p2 (16 : Int32)), .int bb] (rm1 l Z a0 hw (XT.ushrL p2 (16 : Int32)) bb h17) pd_3 rfl (hb hby at_75) rfl (by rw [hml]; rfl) (by decide) 2 (Nat.le_of_eq rfl) (by decide) (by decide) (by decide) ?_
  intro T18 h18 v18 L18 X18 e18 Q18
  obtain ⟨u3, rfl, rfl, rfl⟩ := Q18
  rw [List.append_nil] at X18
  refine g_castore (n := 79) X18 hx hZ e18 A17 3 rfl (by decide) (hb hby at_78) rfl ?_
  intro T19 h19 X19 e19 W19 A19
  refine g_aload (n := 81) X19 hx (hb hby at_79) rfl rfl rfl ?_
  refine g_iconst (n := 82) X19 hx (4 : Int32) (hb hby at_81) rfl rfl ?_
  refine g_lload (n := 84) X19 hx (hb hby at_82) rfl rfl ?_
  refine g_iload (n := 86) X19 hx (hb hby at_84) rfl rfl ?_
  refine g_callS (n := 89) (st := [(.int (4 : Int32)), (.ref a11)]) X19 hx hZ hown e19 (hw _ (List.mem_of_getElem? (i := 2) rfl)) (hw _ (List.mem_of_getElem? (i := 3) rfl)) (hw _ (List.mem_of_getElem? (i := 4) rfl)) (hw _ (List.mem_of_getElem? (i := 5) rfl)) (by decide) [.long p3, .int bb] (rm1 l Z a0 hw p3 bb h19) pd_3 rfl (hb hby at_86) rfl (by rw [hml]; rfl) (by decide) 2 (Nat.le_of_eq rfl) (by decide) (by decide) (by decide) ?_
  intro T20 h20 v20 L20 X20 e20 Q20
  obtain ⟨u4, rfl, rfl, rfl⟩ := Q20
  rw [List.append_nil] at X20
  refine g_castore (n := 90) X20 hx hZ e20 A19 4 rfl (by decide) (hb hby at_89) rfl ?_
  intro T21 h21 X21 e21 W21 A21
  refine g_aload (n := 92) X21 hx (hb hby at_90) rfl rfl rfl ?_
  refine g_iconst (n := 93) X21 hx (5 : Int32) (hb hby at_92) rfl rfl ?_
  refine g_lload (n := 95) X21 hx (hb hby at_93) rfl rfl ?_
  refine g_bipush (n := 97) X21 hx (16 : Int32) (hb hby at_95) rfl rfl ?_
  refine g_lushr (n := 98) X21 hx (hb hby at_97) rfl ?_
  refine g_iload (n := 100) X21 hx (hb hby at_98) rfl rfl ?_
  refine g_callS (n := 103) (st := [(.int (5 : Int32)), (.ref a11)]) X21 hx hZ hown e21 (hw _ (List.mem_of_getElem? (i := 2) rfl)) (hw _ (List.mem_of_getElem? (i := 3) rfl)) (hw _ (List.mem_of_getElem? (i := 4) rfl)) (hw _ (List.mem_of_getElem? (i := 5) rfl)) (by decide) [.long (XT.ushrL p3 (16 : Int32)), .int bb] (rm1 l Z a0 hw (XT.ushrL p3 (16 : Int32)) bb h21) pd_3 rfl (hb hby at_100) rfl (by rw [hml]; rfl) (by decide) 2 (Nat.le_of_eq rfl) (by decide) (by decide) (by decide) ?_
  intro T22 h22 v22 L22 X22 e22 Q22
  obtain ⟨u5, rfl, rfl, rfl⟩ := Q22
  rw [List.append_nil] at X22
  refine g_castore (n := 104) X22 hx hZ e22 A21 5 rfl (by decide) (hb hby at_103) rfl ?_
  intro T23 h23 X23 e23 W23 A23
  have VA : Av Z h23 a11 .char 6 (fun j => .int (own_u [u0, u1, u2, u3, u4, u5] j)) := A23.congr (fun j hj => by
    have : j = 0 ∨ j = 1 ∨ j = 2 ∨ j = 3 ∨ j = 4 ∨ j = 5 := by omega
    rcases this with rfl | rfl | rfl | rfl | rfl | rfl <;> rfl)
  have NA := (Fr.snoc X23 (Fr.snoc X21 (Fr.snoc X19 (Fr.snoc X17 (Fr.snoc X15 (Fr.snoc X13 (Fr.nil h0.size) gal) gal) gal) gal) gal) gal)
  refine g_iload (n := 106) X23 hx (hb hby at_104) rfl rfl ?_
  refine g_newarray (n := 108) X23 hx hZ .char rfl (hw _ (List.mem_of_getElem? (i := 1) rfl)) e23 n rfl 6 hn (by decide) (by decide) (by decide) (hb hby at_106) rfl ?_
  intro T24 h24 a24 X24 e24 z24 E24 A24
  refine g_astore (n := 110) X24 hx (hb hby at_108) rfl rfl #[.val (.long p1), .second, .val (.long p2), .second, .val (.long p3), .second, .val (.int p4), .val (.int (Int32.ofNat n)), .val (.int bb), .val (.ref a11), .val (.ref a24), .unset] rfl ?_
  have VA24 := VA.ext E24
  have gun : h0.size ≤ a24 := by have := VA.lt; omega
  have dau : a11 ≠ a24 := by have := VA.lt; omega
  have VU24 : Av Z h24 a24 .char n (fun j => if j < 0 then .int (own_u [u0, u1, u2, u3, u4, u5] j) else .int 0) := A24.congr (fun j hj => by simp; rfl)
  have J6 : ∀ (T : State) (h : Heap) (L : List Loc), Stand p l e room_1 s m #[.long p1, .long p2, .long p3, .int p4] below meth c T L (0 + 1 + 1) (0 + 6 + 6) → T.heap = h → Fr h0.size L → Av Z h a11 .char 6 (fun j => .int (own_u [u0, u1, u2, u3, u4, u5] j)) → Av Z h a24 .char n (fun j => if j < 6 then .int (own_u [u0, u1, u2, u3, u4, u5] j) else .int 0) → Go p e below (Fe s room_1.cells room_1.slots) (fun v h L => v = some (.int 1) ∧ Fr h0.size L) T (mkF m 193 #[.val (.long p1), .second, .val (.long p2), .second, .val (.long p3), .second, .val (.int p4), .val (.int (Int32.ofNat n)), .val (.int bb), .val (.ref a11), .val (.ref a24), .unset] []) := by
    intro T h L X e1 NL VA VU
    have VU' : Av Z h a24 .char n (fun j => .int (own_u [u0, u1, u2, u3, u4, u5] j)) := VU.congr (fun j hj => by rw [if_pos (by omega)])
    refine g_aload (n := 195) X hx (hb hby at_193) rfl rfl rfl ?_
    refine g_callS (n := 198) (st := []) X hx hZ hown e1 (hw _ (List.mem_of_getElem? (i := 7) rfl)) (hw _ (List.mem_of_getElem? (i := 8) rfl)) (hw _ (List.mem_of_getElem? (i := 9) rfl)) (hw _ (List.mem_of_getElem? (i := 10) rfl)) (by decide) [.ref a24] (rm2 l Z a0 hw a24 (own_u [u0, u1, u2, u3, u4, u5]) n h0.size h VU' hn (by have := VA.lt; omega)) pd_4 rfl (hb hby at_195) rfl (by rw [hml]; rfl) (by decide) 0 (Nat.le_of_eq rfl) (by decide) (by decide) (by decide) ?_
    intro T25 h25 v25 L25 X25 e25 Q25
    obtain ⟨r, rfl, N25, K25, VR⟩ := Q25
    have VA1 := VA.keep K25 nin0
    have VU1 := VU'.keep K25 nin0
    have hp : ∀ j, j < n → (own_run (own_e (own_u [u0, u1, u2, u3, u4, u5])) (max n 1)).1 j = own_long (own_e (own_u [u0, u1, u2, u3, u4, u5])) (j + 1) := fun j hj => by rw [show max n 1 = n by omega]; exact own_law _ n j hn hj
    refine g_astore (n := 200) X25 hx (hb hby at_198) rfl rfl #[.val (.long p1), .second, .val (.long p2), .second, .val (.long p3), .second, .val (.int p4), .val (.int (Int32.ofNat n)), .val (.int bb), .val (.ref a11), .val (.ref a24), .val (.ref r)] rfl ?_
    refine g_aload (n := 202) X25 hx (hb hby at_200) rfl rfl rfl ?_
    refine g_ifnullNo (n := 205) X25 hx (hb hby at_202) rfl ?_
    refine g_aload (n := 207) X25 hx (hb hby at_205) rfl rfl rfl ?_
    refine g_len (n := 208) X25 hx hZ e25 VR (hb hby at_207) rfl ?_
    refine g_iload (n := 210) X25 hx (hb hby at_208) rfl rfl ?_
    refine g_icmp (n := 215) (n' := 213) X25 hx _ (own_ceq _ _) (hb hby at_210) (by decide) (by decide) rfl (fun _ => ?_) (fun hc => absurd rfl hc)
    refine g_aload (n := 217) X25 hx (hb hby at_215) rfl rfl rfl ?_
    refine g_aload (n := 219) X25 hx (hb hby at_217) rfl rfl rfl ?_
    refine g_aload (n := 221) X25 hx (hb hby at_219) rfl rfl rfl ?_
    refine g_iload (n := 223) X25 hx (hb hby at_221) rfl rfl ?_
    refine g_iconst (n := 224) X25 hx (0 : Int32) (hb hby at_223) rfl rfl ?_
    refine g_callSP (n := 227) (st := []) X25 hx hZ hown e25 (hw _ (List.mem_of_getElem? (i := 12) rfl)) (hw _ (List.mem_of_getElem? (i := 13) rfl)) (hw _ (List.mem_of_getElem? (i := 4) rfl)) (hw _ (List.mem_of_getElem? (i := 14) rfl)) (by decide) [.ref r, .ref a24, .ref a11, .int (Int32.ofNat n), .int (0 : Int32)] (rm3 l Z a0 hw r a24 a11 (own_u [u0, u1, u2, u3, u4, u5]) _ n 0 h25 VR VU1 VA1 hn (by decide) hp) pd_5 rfl (hb hby at_224) rfl (by rw [hml]; rfl) (by decide) 0 (Nat.le_of_eq rfl) (by decide) (by decide) (by decide) ?_
    intro T26 X26 e26
    refine g_if (n := 309) (n' := 230) X26 hx _ (own_zeq _) (hb hby at_227) (by decide) (by decide) rfl (fun hc => absurd hc (by decide)) (fun _ => ?_)
    refine g_aload (n := 232) X26 hx (hb hby at_230) rfl rfl rfl ?_
    refine g_aload (n := 234) X26 hx (hb hby at_232) rfl rfl rfl ?_
    refine g_aload (n := 236) X26 hx (hb hby at_234) rfl rfl rfl ?_
    refine g_iload (n := 238) X26 hx (hb hby at_236) rfl rfl ?_
    refine g_iconst (n := 239) X26 hx (1 : Int32) (hb hby at_238) rfl rfl ?_
    refine g_callSP (n := 242) (st := []) X26 hx hZ hown e26 (hw _ (List.mem_of_getElem? (i := 12) rfl)) (hw _ (List.mem_of_getElem? (i := 13) rfl)) (hw _ (List.mem_of_getElem? (i := 4) rfl)) (hw _ (List.mem_of_getElem? (i := 14) rfl)) (by decide) [.ref r, .ref a24, .ref a11, .int (Int32.ofNat n), .int (1 : Int32)] (rm3 l Z a0 hw r a24 a11 (own_u [u0, u1, u2, u3, u4, u5]) _ n 1 h25 VR VU1 VA1 hn (by decide) hp) pd_5 rfl (hb hby at_239) rfl (by rw [hml]; rfl) (by decide) 0 (Nat.le_of_eq rfl) (by decide) (by decide) (by decide) ?_
    intro T27 X27 e27
    refine g_if (n := 309) (n' := 245) X27 hx _ (own_zeq _) (hb hby at_242) (by decide) (by decide) rfl (fun hc => absurd hc (by decide)) (fun _ => ?_)
    refine g_aload (n := 247) X27 hx (hb hby at_245) rfl rfl rfl ?_
    refine g_aload (n := 249) X27 hx (hb hby at_247) rfl rfl rfl ?_
    refine g_aload (n := 251) X27 hx (hb hby at_249) rfl rfl rfl ?_
    refine g_iload (n := 253) X27 hx (hb hby at_251) rfl rfl ?_
    refine g_iconst (n := 254) X27 hx (2 : Int32) (hb hby at_253) rfl rfl ?_
    refine g_callSP (n := 257) (st := []) X27 hx hZ hown e27 (hw _ (List.mem_of_getElem? (i := 12) rfl)) (hw _ (List.mem_of_getElem? (i := 13) rfl)) (hw _ (List.mem_of_getElem? (i := 4) rfl)) (hw _ (List.mem_of_getElem? (i := 14) rfl)) (by decide) [.ref r, .ref a24, .ref a11, .int (Int32.ofNat n), .int (2 : Int32)] (rm3 l Z a0 hw r a24 a11 (own_u [u0, u1, u2, u3, u4, u5]) _ n 2 h25 VR VU1 VA1 hn (by decide) hp) pd_5 rfl (hb hby at_254) rfl (by rw [hml]; rfl) (by decide) 0 (Nat.le_of_eq rfl) (by decide) (by decide) (by decide) ?_
    intro T28 X28 e28
    refine g_if (n := 309) (n' := 260) X28 hx _ (own_zeq _) (hb hby at_257) (by decide) (by decide) rfl (fun hc => absurd hc (by decide)) (fun _ => ?_)
    refine g_aload (n := 262) X28 hx (hb hby at_260) rfl rfl rfl ?_
    refine g_aload (n := 264) X28 hx (hb hby at_262) rfl rfl rfl ?_
    refine g_aload (n := 266) X28 hx (hb hby at_264) rfl rfl rfl ?_
    refine g_iload (n := 268) X28 hx (hb hby at_266) rfl rfl ?_
    refine g_iconst (n := 269) X28 hx (3 : Int32) (hb hby at_268) rfl rfl ?_
    refine g_callSP (n := 272) (st := []) X28 hx hZ hown e28 (hw _ (List.mem_of_getElem? (i := 12) rfl)) (hw _ (List.mem_of_getElem? (i := 13) rfl)) (hw _ (List.mem_of_getElem? (i := 4) rfl)) (hw _ (List.mem_of_getElem? (i := 14) rfl)) (by decide) [.ref r, .ref a24, .ref a11, .int (Int32.ofNat n), .int (3 : Int32)] (rm3 l Z a0 hw r a24 a11 (own_u [u0, u1, u2, u3, u4, u5]) _ n 3 h25 VR VU1 VA1 hn (by decide) hp) pd_5 rfl (hb hby at_269) rfl (by rw [hml]; rfl) (by decide) 0 (Nat.le_of_eq rfl) (by decide) (by decide) (by decide) ?_
    intro T29 X29 e29
    refine g_if (n := 309) (n' := 275) X29 hx _ (own_zeq _) (hb hby at_272) (by decide) (by decide) rfl (fun hc => absurd hc (by decide)) (fun _ => ?_)
    refine g_aload (n := 277) X29 hx (hb hby at_275) rfl rfl rfl ?_
    refine g_aload (n := 279) X29 hx (hb hby at_277) rfl rfl rfl ?_
    refine g_aload (n := 281) X29 hx (hb hby at_279) rfl rfl rfl ?_
    refine g_iload (n := 283) X29 hx (hb hby at_281) rfl rfl ?_
    refine g_iconst (n := 284) X29 hx (4 : Int32) (hb hby at_283) rfl rfl ?_
    refine g_callSP (n := 287) (st := []) X29 hx hZ hown e29 (hw _ (List.mem_of_getElem? (i := 12) rfl)) (hw _ (List.mem_of_getElem? (i := 13) rfl)) (hw _ (List.mem_of_getElem? (i := 4) rfl)) (hw _ (List.mem_of_getElem? (i := 14) rfl)) (by decide) [.ref r, .ref a24, .ref a11, .int (Int32.ofNat n), .int (4 : Int32)] (rm3 l Z a0 hw r a24 a11 (own_u [u0, u1, u2, u3, u4, u5]) _ n 4 h25 VR VU1 VA1 hn (by decide) hp) pd_5 rfl (hb hby at_284) rfl (by rw [hml]; rfl) (by decide) 0 (Nat.le_of_eq rfl) (by decide) (by decide) (by decide) ?_
    intro T30 X30 e30
    refine g_if (n := 309) (n' := 290) X30 hx _ (own_zeq _) (hb hby at_287) (by decide) (by decide) rfl (fun hc => absurd hc (by decide)) (fun _ => ?_)
    refine g_aload (n := 292) X30 hx (hb hby at_290) rfl rfl rfl ?_
    refine g_aload (n := 294) X30 hx (hb hby at_292) rfl rfl rfl ?_
    refine g_aload (n := 296) X30 hx (hb hby at_294) rfl rfl rfl ?_
    refine g_iload (n := 298) X30 hx (hb hby at_296) rfl rfl ?_
    refine g_iconst (n := 299) X30 hx (5 : Int32) (hb hby at_298) rfl rfl ?_
    refine g_callSP (n := 302) (st := []) X30 hx hZ hown e30 (hw _ (List.mem_of_getElem? (i := 12) rfl)) (hw _ (List.mem_of_getElem? (i := 13) rfl)) (hw _ (List.mem_of_getElem? (i := 4) rfl)) (hw _ (List.mem_of_getElem? (i := 14) rfl)) (by decide) [.ref r, .ref a24, .ref a11, .int (Int32.ofNat n), .int (5 : Int32)] (rm3 l Z a0 hw r a24 a11 (own_u [u0, u1, u2, u3, u4, u5]) _ n 5 h25 VR VU1 VA1 hn (by decide) hp) pd_5 rfl (hb hby at_299) rfl (by rw [hml]; rfl) (by decide) 0 (Nat.le_of_eq rfl) (by decide) (by decide) (by decide) ?_
    intro T31 X31 e31
    refine g_if (n := 309) (n' := 305) X31 hx _ (own_zeq _) (hb hby at_302) (by decide) (by decide) rfl (fun hc => absurd hc (by decide)) (fun _ => ?_)
    refine g_iconst (n := 306) X31 hx (1 : Int32) (hb hby at_305) rfl rfl ?_
    refine g_goto (n := 310) X31 hx (hb hby at_306) (by decide) (by decide) ?_
    refine g_retZ X31 hx (by decide) hret hlk (hb hby at_310) (Fe.of (by decide) (by decide)) ?_
    try rw [e31]
    exact ⟨rfl, Fr.app NL N25⟩
  have J5 : ∀ (T : State) (h : Heap) (L : List Loc), Stand p l e room_1 s m #[.long p1, .long p2, .long p3, .int p4] below meth c T L (0 + 1 + 1) (0 + 6 + 6) → T.heap = h → Fr h0.size L → Av Z h a11 .char 6 (fun j => .int (own_u [u0, u1, u2, u3, u4, u5] j)) → Av Z h a24 .char n (fun j => if j < 5 then .int (own_u [u0, u1, u2, u3, u4, u5] j) else .int 0) → Go p e below (Fe s room_1.cells room_1.slots) (fun v h L => v = some (.int 1) ∧ Fr h0.size L) T (mkF m 179 #[.val (.long p1), .second, .val (.long p2), .second, .val (.long p3), .second, .val (.int p4), .val (.int (Int32.ofNat n)), .val (.int bb), .val (.ref a11), .val (.ref a24), .unset] []) := by
    intro T h L X e1 NL VA VU
    refine g_iload (n := 181) X hx (hb hby at_179) rfl rfl ?_
    refine g_iconst (n := 182) X hx (5 : Int32) (hb hby at_181) rfl rfl ?_
    refine g_icmp (n := 193) (n' := 185) X hx _ (own_cle _ _) (hb hby at_182) (by decide) (by decide) rfl (fun hc => ?_) (fun hc => ?_)
    · have hk := (own_le (n := n) (i := 5) (by omega) (by omega)).mp hc
      exact J6 _ _ _ X e1 NL VA (VU.congr (fun j hj => by rw [if_pos (by omega : j < 5), if_pos (by omega : j < 6)]))
    · have hk : 5 < n := Nat.not_le.mp (fun q => hc ((own_le (n := n) (i := 5) (by omega) (by omega)).mpr q))
      refine g_aload (n := 187) X hx (hb hby at_185) rfl rfl rfl ?_
      refine g_iconst (n := 188) X hx (5 : Int32) (hb hby at_187) rfl rfl ?_
      refine g_aload (n := 190) X hx (hb hby at_188) rfl rfl rfl ?_
      refine g_iconst (n := 191) X hx (5 : Int32) (hb hby at_190) rfl rfl ?_
      refine g_caload (n := 192) X hx hZ e1 VA 5 rfl (by decide) (.int (own_u [u0, u1, u2, u3, u4, u5] 5)) rfl (hb hby at_191) rfl ?_
      refine g_castore (n := 193) X hx hZ e1 VU 5 rfl hk (hb hby at_192) rfl ?_
      intro T32 h32 X32 e32 W32 A32
      exact J6 _ _ _ X32 e32 (Fr.snoc X32 NL gun) (VA.other W32 dau) (A32.congr (fun j hj => by
        by_cases q : j = 5
        · subst q; rw [if_pos rfl, if_pos (by omega)]; exact congrArg Value.int (own_nar _)
        · rw [if_neg q]; by_cases q2 : j < 5
          · rw [if_pos q2, if_pos (by omega)]
          · rw [if_neg q2, if_neg (by omega)]))
  have J4 : ∀ (T : State) (h : Heap) (L : List Loc), Stand p l e room_1 s m #[.long p1, .long p2, .long p3, .int p4] below meth c T L (0 + 1 + 1) (0 + 6 + 6) → T.heap = h → Fr h0.size L → Av Z h a11 .char 6 (fun j => .int (own_u [u0, u1, u2, u3, u4, u5] j)) → Av Z h a24 .char n (fun j => if j < 4 then .int (own_u [u0, u1, u2, u3, u4, u5] j) else .int 0) → Go p e below (Fe s room_1.cells room_1.slots) (fun v h L => v = some (.int 1) ∧ Fr h0.size L) T (mkF m 165 #[.val (.long p1), .second, .val (.long p2), .second, .val (.long p3), .second, .val (.int p4), .val (.int (Int32.ofNat n)), .val (.int bb), .val (.ref a11), .val (.ref a24), .unset] []) := by
    intro T h L X e1 NL VA VU
    refine g_iload (n := 167) X hx (hb hby at_165) rfl rfl ?_
    refine g_iconst (n := 168) X hx (4 : Int32) (hb hby at_167) rfl rfl ?_
    refine g_icmp (n := 179) (n' := 171) X hx _ (own_cle _ _) (hb hby at_168) (by decide) (by decide) rfl (fun hc => ?_) (fun hc => ?_)
    · have hk := (own_le (n := n) (i := 4) (by omega) (by omega)).mp hc
      exact J5 _ _ _ X e1 NL VA (VU.congr (fun j hj => by rw [if_pos (by omega : j < 4), if_pos (by omega : j < 5)]))
    · have hk : 4 < n := Nat.not_le.mp (fun q => hc ((own_le (n := n) (i := 4) (by omega) (by omega)).mpr q))
      refine g_aload (n := 173) X hx (hb hby at_171) rfl rfl rfl ?_
      refine g_iconst (n := 174) X hx (4 : Int32) (hb hby at_173) rfl rfl ?_
      refine g_aload (n := 176) X hx (hb hby at_174) rfl rfl rfl ?_
      refine g_iconst (n := 177) X hx (4 : Int32) (hb hby at_176) rfl rfl ?_
      refine g_caload (n := 178) X hx hZ e1 VA 4 rfl (by decide) (.int (own_u [u0, u1, u2, u3, u4, u5] 4)) rfl (hb hby at_177) rfl ?_
      refine g_castore (n := 179) X hx hZ e1 VU 4 rfl hk (hb hby at_178) rfl ?_
      intro T33 h33 X33 e33 W33 A33
      exact J5 _ _ _ X33 e33 (Fr.snoc X33 NL gun) (VA.other W33 dau) (A33.congr (fun j hj => by
        by_cases q : j = 4
        · subst q; rw [if_pos rfl, if_pos (by omega)]; exact congrArg Value.int (own_nar _)
        · rw [if_neg q]; by_cases q2 : j < 4
          · rw [if_pos q2, if_pos (by omega)]
          · rw [if_neg q2, if_neg (by omega)]))
  have J3 : ∀ (T : State) (h : Heap) (L : List Loc), Stand p l e room_1 s m #[.long p1, .long p2, .long p3, .int p4] below meth c T L (0 + 1 + 1) (0 + 6 + 6) → T.heap = h → Fr h0.size L → Av Z h a11 .char 6 (fun j => .int (own_u [u0, u1, u2, u3, u4, u5] j)) → Av Z h a24 .char n (fun j => if j < 3 then .int (own_u [u0, u1, u2, u3, u4, u5] j) else .int 0) → Go p e below (Fe s room_1.cells room_1.slots) (fun v h L => v = some (.int 1) ∧ Fr h0.size L) T (mkF m 151 #[.val (.long p1), .second, .val (.long p2), .second, .val (.long p3), .second, .val (.int p4), .val (.int (Int32.ofNat n)), .val (.int bb), .val (.ref a11), .val (.ref a24), .unset] []) := by
    intro T h L X e1 NL VA VU
    refine g_iload (n := 153) X hx (hb hby at_151) rfl rfl ?_
    refine g_iconst (n := 154) X hx (3 : Int32) (hb hby at_153) rfl rfl ?_
    refine g_icmp (n := 165) (n' := 157) X hx _ (own_cle _ _) (hb hby at_154) (by decide) (by decide) rfl (fun hc => ?_) (fun hc => ?_)
    · have hk := (own_le (n := n) (i := 3) (by omega) (by omega)).mp hc
      exact J4 _ _ _ X e1 NL VA (VU.congr (fun j hj => by rw [if_pos (by omega : j < 3), if_pos (by omega : j < 4)]))
    · have hk : 3 < n := Nat.not_le.mp (fun q => hc ((own_le (n := n) (i := 3) (by omega) (by omega)).mpr q))
      refine g_aload (n := 159) X hx (hb hby at_157) rfl rfl rfl ?_
      refine g_iconst (n := 160) X hx (3 : Int32) (hb hby at_159) rfl rfl ?_
      refine g_aload (n := 162) X hx (hb hby at_160) rfl rfl rfl ?_
      refine g_iconst (n := 163) X hx (3 : Int32) (hb hby at_162) rfl rfl ?_
      refine g_caload (n := 164) X hx hZ e1 VA 3 rfl (by decide) (.int (own_u [u0, u1, u2, u3, u4, u5] 3)) rfl (hb hby at_163) rfl ?_
      refine g_castore (n := 165) X hx hZ e1 VU 3 rfl hk (hb hby at_164) rfl ?_
      intro T34 h34 X34 e34 W34 A34
      exact J4 _ _ _ X34 e34 (Fr.snoc X34 NL gun) (VA.other W34 dau) (A34.congr (fun j hj => by
        by_cases q : j = 3
        · subst q; rw [if_pos rfl, if_pos (by omega)]; exact congrArg Value.int (own_nar _)
        · rw [if_neg q]; by_cases q2 : j < 3
          · rw [if_pos q2, if_pos (by omega)]
          · rw [if_neg q2, if_neg (by omega)]))
  have J2 : ∀ (T : State) (h : Heap) (L : List Loc), Stand p l e room_1 s m #[.long p1, .long p2, .long p3, .int p4] below meth c T L (0 + 1 + 1) (0 + 6 + 6) → T.heap = h → Fr h0.size L → Av Z h a11 .char 6 (fun j => .int (own_u [u0, u1, u2, u3, u4, u5] j)) → Av Z h a24 .char n (fun j => if j < 2 then .int (own_u [u0, u1, u2, u3, u4, u5] j) else .int 0) → Go p e below (Fe s room_1.cells room_1.slots) (fun v h L => v = some (.int 1) ∧ Fr h0.size L) T (mkF m 137 #[.val (.long p1), .second, .val (.long p2), .second, .val (.long p3), .second, .val (.int p4), .val (.int (Int32.ofNat n)), .val (.int bb), .val (.ref a11), .val (.ref a24), .unset] []) := by
    intro T h L X e1 NL VA VU
    refine g_iload (n := 139) X hx (hb hby at_137) rfl rfl ?_
    refine g_iconst (n := 140) X hx (2 : Int32) (hb hby at_139) rfl rfl ?_
    refine g_icmp (n := 151) (n' := 143) X hx _ (own_cle _ _) (hb hby at_140) (by decide) (by decide) rfl (fun hc => ?_) (fun hc => ?_)
    · have hk := (own_le (n := n) (i := 2) (by omega) (by omega)).mp hc
      exact J3 _ _ _ X e1 NL VA (VU.congr (fun j hj => by rw [if_pos (by omega : j < 2), if_pos (by omega : j < 3)]))
    · have hk : 2 < n := Nat.not_le.mp (fun q => hc ((own_le (n := n) (i := 2) (by omega) (by omega)).mpr q))
      refine g_aload (n := 145) X hx (hb hby at_143) rfl rfl rfl ?_
      refine g_iconst (n := 146) X hx (2 : Int32) (hb hby at_145) rfl rfl ?_
      refine g_aload (n := 148) X hx (hb hby at_146) rfl rfl rfl ?_
      refine g_iconst (n := 149) X hx (2 : Int32) (hb hby at_148) rfl rfl ?_
      refine g_caload (n := 150) X hx hZ e1 VA 2 rfl (by decide) (.int (own_u [u0, u1, u2, u3, u4, u5] 2)) rfl (hb hby at_149) rfl ?_
      refine g_castore (n := 151) X hx hZ e1 VU 2 rfl hk (hb hby at_150) rfl ?_
      intro T35 h35 X35 e35 W35 A35
      exact J3 _ _ _ X35 e35 (Fr.snoc X35 NL gun) (VA.other W35 dau) (A35.congr (fun j hj => by
        by_cases q : j = 2
        · subst q; rw [if_pos rfl, if_pos (by omega)]; exact congrArg Value.int (own_nar _)
        · rw [if_neg q]; by_cases q2 : j < 2
          · rw [if_pos q2, if_pos (by omega)]
          · rw [if_neg q2, if_neg (by omega)]))
  have J1 : ∀ (T : State) (h : Heap) (L : List Loc), Stand p l e room_1 s m #[.long p1, .long p2, .long p3, .int p4] below meth c T L (0 + 1 + 1) (0 + 6 + 6) → T.heap = h → Fr h0.size L → Av Z h a11 .char 6 (fun j => .int (own_u [u0, u1, u2, u3, u4, u5] j)) → Av Z h a24 .char n (fun j => if j < 1 then .int (own_u [u0, u1, u2, u3, u4, u5] j) else .int 0) → Go p e below (Fe s room_1.cells room_1.slots) (fun v h L => v = some (.int 1) ∧ Fr h0.size L) T (mkF m 123 #[.val (.long p1), .second, .val (.long p2), .second, .val (.long p3), .second, .val (.int p4), .val (.int (Int32.ofNat n)), .val (.int bb), .val (.ref a11), .val (.ref a24), .unset] []) := by
    intro T h L X e1 NL VA VU
    refine g_iload (n := 125) X hx (hb hby at_123) rfl rfl ?_
    refine g_iconst (n := 126) X hx (1 : Int32) (hb hby at_125) rfl rfl ?_
    refine g_icmp (n := 137) (n' := 129) X hx _ (own_cle _ _) (hb hby at_126) (by decide) (by decide) rfl (fun hc => ?_) (fun hc => ?_)
    · have hk := (own_le (n := n) (i := 1) (by omega) (by omega)).mp hc
      exact J2 _ _ _ X e1 NL VA (VU.congr (fun j hj => by rw [if_pos (by omega : j < 1), if_pos (by omega : j < 2)]))
    · have hk : 1 < n := Nat.not_le.mp (fun q => hc ((own_le (n := n) (i := 1) (by omega) (by omega)).mpr q))
      refine g_aload (n := 131) X hx (hb hby at_129) rfl rfl rfl ?_
      refine g_iconst (n := 132) X hx (1 : Int32) (hb hby at_131) rfl rfl ?_
      refine g_aload (n := 134) X hx (hb hby at_132) rfl rfl rfl ?_
      refine g_iconst (n := 135) X hx (1 : Int32) (hb hby at_134) rfl rfl ?_
      refine g_caload (n := 136) X hx hZ e1 VA 1 rfl (by decide) (.int (own_u [u0, u1, u2, u3, u4, u5] 1)) rfl (hb hby at_135) rfl ?_
      refine g_castore (n := 137) X hx hZ e1 VU 1 rfl hk (hb hby at_136) rfl ?_
      intro T36 h36 X36 e36 W36 A36
      exact J2 _ _ _ X36 e36 (Fr.snoc X36 NL gun) (VA.other W36 dau) (A36.congr (fun j hj => by
        by_cases q : j = 1
        · subst q; rw [if_pos rfl, if_pos (by omega)]; exact congrArg Value.int (own_nar _)
        · rw [if_neg q]; by_cases q2 : j < 1
          · rw [if_pos q2, if_pos (by omega)]
          · rw [if_neg q2, if_neg (by omega)]))
  have VU := VU24
  have VA := VA24
  have NL := NA
  refine g_iload (n := 112) X24 hx (hb hby at_110) rfl rfl ?_
  refine g_if (n := 123) (n' := 115) X24 hx _ (own_zle _) (hb hby at_112) (by decide) (by decide) rfl (fun hc => ?_) (fun hc => ?_)
  · have hk := (own_le (n := n) (i := 0) (by omega) (by omega)).mp hc
    exact J1 _ _ _ X24 e24 NL VA (VU.congr (fun j hj => by rw [if_pos (by omega : j < 0), if_pos (by omega : j < 1)]))
  · have hk : 0 < n := Nat.not_le.mp (fun q => hc ((own_le (n := n) (i := 0) (by omega) (by omega)).mpr q))
    refine g_aload (n := 117) X24 hx (hb hby at_115) rfl rfl rfl ?_
    refine g_iconst (n := 118) X24 hx (0 : Int32) (hb hby at_117) rfl rfl ?_
    refine g_aload (n := 120) X24 hx (hb hby at_118) rfl rfl rfl ?_
    refine g_iconst (n := 121) X24 hx (0 : Int32) (hb hby at_120) rfl rfl ?_
    refine g_caload (n := 122) X24 hx hZ e24 VA 0 rfl (by decide) (.int (own_u [u0, u1, u2, u3, u4, u5] 0)) rfl (hb hby at_121) rfl ?_
    refine g_castore (n := 123) X24 hx hZ e24 VU 0 rfl hk (hb hby at_122) rfl ?_
    intro T37 h37 X37 e37 W37 A37
    exact J1 _ _ _ X37 e37 (Fr.snoc X37 NL gun) (VA.other W37 dau) (A37.congr (fun j hj => by
      by_cases q : j = 0
      · subst q; rw [if_pos rfl, if_pos (by omega)]; exact congrArg Value.int (own_nar _)
      · rw [if_neg q]; by_cases q2 : j < 0
        · rw [if_pos q2, if_pos (by omega)]
        · rw [if_neg q2, if_neg (by omega)]))
set_option maxRecDepth 65536 in
set_option maxHeartbeats 40000000 in
theorem comes_1 {Post : Tables → Env → Array Value → State → Outcome → State → Prop} (hpost : ∀ tb e args s v u, (limb_1_1.after args s (.returned v) u = true ∧ limb_1_2.after args s (.returned v) u = true ∧ True) → FrameEnd s (.returned v) u (Jvm.fieldLocs frame_1_writes args s ++ Jvm.arrayLocs frame_1_arrays args s ++ Jvm.staticLocs frame_1_statics s) 16 128 → Post tb e args s (.returned v) u) :
    ArmFor flags0 classFile x code maxLocals ret World_1 tables_1 room_1 Calls_1 rest_1 Pre_1 Post := by
  intro l hfl _ _ p e ha hc hk s m args below hf hA hF happ hP
  obtain ⟨hcalls, hrest, hpre⟩ := hP
  obtain ⟨-, -, -, hnamed, -, -, -, hat⟩ := (Spec.applies_iff hf).mp happ
  obtain ⟨hg, hn⟩ := and_e (Cond.before_iff.mp (show (Jvm.Cond.and given_1 narrow_1).before args s = true from hpre))
  obtain ⟨h1, hg1⟩ := and_e hg
  obtain ⟨k0, hg2⟩ := and_e hg1
  obtain ⟨k1, hg3⟩ := and_e hg2
  obtain ⟨k2, hg4⟩ := and_e hg3
  obtain ⟨w0, w1, w2, w3, rfl⟩ : ∃ w0 w1 w2 w3 : Value, args = #[w0, w1, w2, w3] := by
    have hs : args.size = 4 := by simpa [Cond.value, given_1] using h1
    obtain ⟨L⟩ := args
    match L, hs with
    | [w0, w1, w2, w3], _ => exact ⟨w0, w1, w2, w3, rfl⟩
  have hw := fun d (hd : d ∈ tables_1) => atoms_spec (ws := Jvm.Cond.code x code maxLocals ret :: tables_1) hat d (List.mem_cons_of_mem _ hd)
  have hfit : Fit s := fun {y c} hc i hi => by
    obtain ⟨ha, rfl⟩ := Array.getElem?_eq_some_iff.mp hc
    have q := List.all_eq_true.mp ((Array.all_eq_true_iff_forall_mem.mp hF) _ (Array.getElem_mem ha)) i (List.mem_range.mpr hi)
    simpa [Array.getElem?_eq_getElem hi] using q
  obtain ⟨i0, e0⟩ := isL_v k0
  obtain rfl : w0 = (.long i0) := Option.some.inj e0
  obtain ⟨i1, e1⟩ := isL_v k1
  obtain rfl : w1 = (.long i1) := Option.some.inj e1
  obtain ⟨i2, e2⟩ := isL_v k2
  obtain rfl : w2 = (.long i2) := Option.some.inj e2
  obtain ⟨i3, e3⟩ := is_v hg4
  obtain rfl : w3 = (.int i3) := Option.some.inj e3
  obtain ⟨n, o, h1, h2, h3, _, L, rfl, ⟨rfl, N⟩, hq⟩ := rm0 l s _ hw i0 i1 i2 i3 s.heap  p e ha hc hk s m _ below hf ((Spec.applies_iff_loose hf).mp happ).1 ⟨rfl, State.Warmed39.refl s, rfl⟩ trivial
  refine ⟨n, _, h1, h2, h3, hpost _ _ _ _ _ _ ⟨Cond.after_iff.mpr rfl, Cond.after_iff.mpr (eq_i res_at (Term.int_eval (1)) rfl), trivial⟩ ⟨hq.1, hq.2.1, (hq.2.2.sift fun y hy => Or.inr (N y hy)).mono (by decide) (by decide)⟩⟩
theorem main_1_1 : Claimed_1_1 := comes_1 fun _ _ _ _ _ _ h hF => ⟨h.1, hF⟩
theorem main_1_2 : Claimed_1_2 := comes_1 fun _ _ _ _ _ _ h hF => ⟨h.2.1, hF⟩


end Jvm.Pilot.@@N@@
namespace Jvm.Pilot.@@N@@
open Jvm Jvm.ClassFile Sem Op Lib Jvm.Free Jvm.Stand Jvm.Pilot.@@N@@.Jvm.D
/-! MADE BY PROGRAM (witnessworld.py) out of the Statement's table words and the real class files: 11 classes; the members and pool entries that the words name. The judged class is class 1, her method 1. -/
namespace start1
open Jvm.ClassFile
def u (s : String) : CpInfo := .utf8 (stringToUtf16 s)
/-- a pool by its gaps: so many unusable entries, then the entry; so many at the end -/
def gap : Nat → List CpInfo → List CpInfo
  | 0, r => r
  | n + 1, r => .unusable :: gap n r
def poolList (es : List (Nat × CpInfo)) (last : Nat) : List CpInfo := es.foldr (fun e r => gap e.1 (e.2 :: r)) (gap last [])
def pool (es : List (Nat × CpInfo)) (last : Nat) : Array CpInfo := ⟨poolList es last⟩
def fileOf (pool : Array CpInfo) (this : Nat) (attrs : Array Attribute := #[]) (ms : Array MethodInfo := #[]) (fl : Nat := 33) (sup : Nat := 0) (ifs : Array Nat := #[]) (fds : Array FieldInfo := #[]) : ClassFile where
  minorVersion := 0
  majorVersion := 65
  constantPool := pool
  accessFlags := fl
  thisClass := this
  superClass := sup
  interfaces := ifs
  fields := fds
  methods := ms
  attributes := attrs
def plain (name : String) (sup : Option ClassId) : Class where
  name := name
  kind := .ordinary
  loader := none
  accessFlags := 33
  super := sup
  interfaces := #[]
  cf := none
  fields := #[]
  methods := #[]
  instanceTypes := #[]
  staticTypes := #[]
  resolved := #[]
  callSites := []
  init := .initialized
  statics := none
  mirror := none

def pool0 : Array CpInfo := pool [(5, u "<init>"), (0, u "()V"), (1, .class_ 10), (1, u "java/lang/Object")] 113

def k0m0 : Method := { name := "<init>", desc := "()V", sig := { parameters := [], returnType := none }, accessFlags := 1, code := none }
/-- java/lang/Object -/
def k0 : Class := { plain "java/lang/Object" none with
  accessFlags := 33
  interfaces := #[]
  cf := some (fileOf pool0 8 #[] #[{ accessFlags := 1, nameIndex := 5, descriptorIndex := 6, attributes := #[] }] 33 0 #[] #[])
  fields := #[]
  methods := #[k0m0]
  instanceTypes := #[]
  staticTypes := #[]
  resolved := Array.replicate 124 none
  statics := none }

def pool1 : Array CpInfo := pool [(2, .class_ 4), (1, u "java/lang/Object"), (0, u "<init>"), (0, u "()V"), (0, .integer 2147483647), (0, .methodref 9 10), (0, .class_ 11), (0, .nameAndType 12 13), (0, u "com/example/border/border/BorderTablePrefixFunctionOfPinLaw"), (0, u "unit"), (0, u "(JZ)C"), (0, .methodref 15 16), (0, .class_ 17), (0, .nameAndType 18 19), (0, u "com/example/border/border/BorderTable"), (0, u "prefixFunctionOf"), (0, u "([C)[I"), (0, .methodref 9 21), (0, .nameAndType 22 23), (0, u "ok"), (0, u "([I[C[CII)Z"), (0, .long 65535), (1, .methodref 9 27), (0, .nameAndType 28 29), (0, u "longest"), (0, u "([CI)I"), (0, .methodref 9 31), (0, .nameAndType 32 33), (0, u "eqAt"), (0, u "([CIII)Z"), (0, .methodref 9 35), (0, .nameAndType 36 37), (0, u "isBorder"), (0, u "([CII)Z"), (2, u "law"), (0, u "(JJJI)Z")] 7

def k1m0 : Method := { name := "<init>", desc := "()V", sig := { parameters := [], returnType := none }, accessFlags := 1, code := none }
def k1c1 : Code := { maxStack := 5, maxLocals := 12, code := code, exceptionTable := #[], attributes := #[] }
def k1m1 : Method := { name := "law", desc := "(JJJI)Z", sig := { parameters := [.long, .long, .long, .int], returnType := some .boolean }, accessFlags := 9, code := some k1c1 }
def k1c2 : Code := { maxStack := 4, maxLocals := 4, code := method_3_code, exceptionTable := #[], attributes := #[] }
def k1m2 : Method := { name := "unit", desc := "(JZ)C", sig := { parameters := [.long, .boolean], returnType := some .char }, accessFlags := 10, code := some k1c2 }
def k1c3 : Code := { maxStack := 4, maxLocals := 5, code := method_4_code, exceptionTable := #[], attributes := #[] }
def k1m3 : Method := { name := "ok", desc := "([I[C[CII)Z", sig := { parameters := [(.array .int), (.array .char), (.array .char), .int, .int], returnType := some .boolean }, accessFlags := 10, code := some k1c3 }
def k1c4 : Code := { maxStack := 4, maxLocals := 4, code := method_5_code, exceptionTable := #[], attributes := #[] }
def k1m4 : Method := { name := "eqAt", desc := "([CIII)Z", sig := { parameters := [(.array .char), .int, .int, .int], returnType := some .boolean }, accessFlags := 10, code := some k1c4 }
def k1c5 : Code := { maxStack := 4, maxLocals := 3, code := method_6_code, exceptionTable := #[], attributes := #[] }
def k1m5 : Method := { name := "isBorder", desc := "([CII)Z", sig := { parameters := [(.array .char), .int, .int], returnType := some .boolean }, accessFlags := 10, code := some k1c5 }
def k1c6 : Code := { maxStack := 3, maxLocals := 2, code := method_7_code, exceptionTable := #[], attributes := #[] }
def k1m6 : Method := { name := "longest", desc := "([CI)I", sig := { parameters := [(.array .char), .int], returnType := some .int }, accessFlags := 10, code := some k1c6 }
/-- com/example/border/border/BorderTablePrefixFunctionOfPinLaw -/
def k1 : Class := { plain "com/example/border/border/BorderTablePrefixFunctionOfPinLaw" (some 0) with
  accessFlags := 49
  interfaces := #[]
  cf := some (fileOf pool1 9 #[] #[{ accessFlags := 1, nameIndex := 5, descriptorIndex := 6, attributes := #[] }, { accessFlags := 9, nameIndex := 40, descriptorIndex := 41, attributes := #[] }, { accessFlags := 10, nameIndex := 12, descriptorIndex := 13, attributes := #[] }, { accessFlags := 10, nameIndex := 22, descriptorIndex := 23, attributes := #[] }, { accessFlags := 10, nameIndex := 32, descriptorIndex := 33, attributes := #[] }, { accessFlags := 10, nameIndex := 36, descriptorIndex := 37, attributes := #[] }, { accessFlags := 10, nameIndex := 28, descriptorIndex := 29, attributes := #[] }] 49 2 #[] #[])
  fields := #[]
  methods := #[k1m0, k1m1, k1m2, k1m3, k1m4, k1m5, k1m6]
  instanceTypes := #[]
  staticTypes := #[]
  resolved := Array.replicate 49 none
  statics := none }

def pool2 : Array CpInfo := pool [(2, .class_ 4), (1, u "java/lang/Object"), (0, u "<init>"), (0, u "()V"), (19, .class_ 28), (1, u "com/example/border/border/BorderTable"), (0, u "prefixFunctionOf"), (0, u "([C)[I"), (1, .class_ 34), (1, u "com/example/border/border/BorderTable$1")] 41

def k2m0 : Method := { name := "<init>", desc := "()V", sig := { parameters := [], returnType := none }, accessFlags := 2, code := none }
def k2c1 : Code := { maxStack := 3, maxLocals := 6, code := prog_1_method_3_code, exceptionTable := #[], attributes := #[] }
def k2m1 : Method := { name := "prefixFunctionOf", desc := "([C)[I", sig := { parameters := [(.array .char)], returnType := some (.array .int) }, accessFlags := 8, code := some k2c1 }
/-- com/example/border/border/BorderTable -/
def k2 : Class := { plain "com/example/border/border/BorderTable" (some 0) with
  accessFlags := 33
  interfaces := #[]
  cf := some (fileOf pool2 26 #[.nestMembers #[32]] #[{ accessFlags := 2, nameIndex := 5, descriptorIndex := 6, attributes := #[] }, { accessFlags := 8, nameIndex := 29, descriptorIndex := 30, attributes := #[] }] 33 2 #[] #[])
  fields := #[]
  methods := #[k2m0, k2m1]
  instanceTypes := #[]
  staticTypes := #[]
  resolved := Array.replicate 76 none
  statics := none }

def pool3 : Array CpInfo := pool [(1, u "java/lang/Cloneable"), (0, .class_ 1), (0, u "java/lang/Object"), (0, .class_ 3)] 3

/-- java/lang/Cloneable -/
def k3 : Class := { plain "java/lang/Cloneable" (some 0) with
  accessFlags := 1537
  interfaces := #[]
  cf := some (fileOf pool3 2 #[] #[] 1537 4 #[] #[])
  fields := #[]
  methods := #[]
  instanceTypes := #[]
  staticTypes := #[]
  resolved := Array.replicate 8 none
  statics := none }

def pool4 : Array CpInfo := pool [(1, u "java/io/Serializable"), (0, .class_ 1), (0, u "java/lang/Object"), (0, .class_ 3)] 3

/-- java/io/Serializable -/
def k4 : Class := { plain "java/io/Serializable" (some 0) with
  accessFlags := 1537
  interfaces := #[]
  cf := some (fileOf pool4 2 #[] #[] 1537 4 #[] #[])
  fields := #[]
  methods := #[]
  instanceTypes := #[]
  staticTypes := #[]
  resolved := Array.replicate 8 none
  statics := none }

/-- the primitive byte -/
def k5 : Class := { plain "byte" none with kind := .primitive 'B', accessFlags := 0x411 }
/-- [B -/
def k6 : Class := { plain "[B" (some 0) with kind := .array 5 .byte, interfaces := #[3, 4], accessFlags := 1041 }

/-- the primitive char -/
def k7 : Class := { plain "char" none with kind := .primitive 'C', accessFlags := 0x411 }
/-- [C -/
def k8 : Class := { plain "[C" (some 0) with kind := .array 7 .char, interfaces := #[3, 4], accessFlags := 1041 }

/-- the primitive int -/
def k9 : Class := { plain "int" none with kind := .primitive 'I', accessFlags := 0x411 }
/-- [I -/
def k10 : Class := { plain "[I" (some 0) with kind := .array 9 .int, interfaces := #[3, 4], accessFlags := 1041 }

def heap : Heap := #[]
def classes : Array Class := #[k0, k1, k2, k3, k4, k5, k6, k7, k8, k9, k10]
def interned : List (Array UInt16 × Addr) := []
def slotsUsed : Nat := 0
def theMethod : MethodId := ⟨1, 1⟩
def args0 : Array Value := #[.long 5, .long 6, .long 7, .int 5]
def aboutOver (below : List Frame) : State where
  vm := { classes := classes, interned := interned.toArray }
  heap := heap
  slotsUsed := slotsUsed
  threads := #[{ frames := .invoking theMethod args0 :: below }]
def below0 : List Frame := [.native { method := ⟨0, 0⟩, args := #[] }]
def about1 : State := aboutOver below0
def p0 : Program := .bare "" "" ""
def e0 : Env := launch0.env 0 0 0
theorem w_frames : about1.frames = Frame.invoking theMethod args0 :: below0 := rfl
set_option maxRecDepth 65536 in
theorem w_args : argsFit about1.vm theMethod args0 = true := by decide +kernel
set_option maxRecDepth 65536 in
theorem w_heap : heapFits about1 = true := by decide +kernel
set_option maxRecDepth 65536 in
theorem w_runnable : about1.curStatus? = some .runnable := by decide +kernel
set_option maxRecDepth 65536 in
theorem w_alone : about1.alone = true := by decide +kernel
set_option maxRecDepth 65536 in
theorem w_named : about1.methodNamed? x = some theMethod := by decide +kernel
set_option maxRecDepth 65536 in
theorem w_hears : about1.hears theMethod below0 = true := by decide +kernel
set_option maxRecDepth 65536 in
theorem w_ripe : about1.ripe theMethod args0 below0 = true := by decide +kernel
theorem w_running : about1.status = .running := rfl
set_option maxRecDepth 65536 in
theorem w_room : about1.hasRoom e0.platform room_1 = true :=
  launch0.hasRoom_least _ room_1 (by decide +kernel) (by decide +kernel) (by decide +kernel) (by decide +kernel) (by decide +kernel) (by decide +kernel)
theorem allAtoms_all (ts : List Jvm.Cond) (a : Array Jvm.Value) (st : Jvm.State) : (allAtoms ts).before a st = ts.all (fun c => c.before a st) := by
  induction ts with
  | nil => rfl
  | cons c t ih =>
    show (Jvm.Cond.and c (allAtoms t)).before a st = _
    rw [Jvm.Cond.before_and, ih, List.all_cons]
def words1 : List Jvm.Cond := Jvm.Cond.code x code maxLocals ret :: tables_1
/-- a 'code' word, met by the world's own term for the bytes: nothing is compared byte by byte -/
theorem code_word {y : MethodName} {bytes : ByteArray} {mx : Nat} {rt : Option FieldType} {a : Array Value} {s : State} {m : MethodId} {meth : Method} {c : Code} (h1 : s.methodNamed? y = some m) (h2 : s.vm.method? m = some meth) (h3 : meth.code = some c) (h4 : c.code = bytes)
    (h5 : (c.maxLocals == mx && c.exceptionTable.isEmpty && decide (c.maxStack ≤ mostOperands) && decide (meth.sig.returnType = rt) && !meth.locks && decide (parseMethodDescriptor y.desc = some meth.sig)) = true) : (Jvm.Cond.code y bytes mx rt).before a s = true := by
  simp only [Bool.and_eq_true, beq_iff_eq, Bool.not_eq_true', decide_eq_true_eq] at h5
  obtain ⟨⟨⟨⟨⟨g1, g2⟩, g3⟩, g4⟩, g5⟩, g6⟩ := h5
  simp [Cond.before, Cond.holds, Cond.value, h1, h2, h3, h4, g1, g2, g3, g4, g5, g6]
def isCode : Jvm.Cond → Bool
  | .code _ _ _ _ => true
  | _ => false
theorem all_split {L : List Jvm.Cond} {P : Jvm.Cond → Bool} (h1 : L.all (fun c => isCode c || P c) = true) (h2 : ∀ c ∈ L.filter isCode, P c = true) : L.all P = true := by
  refine List.all_eq_true.mpr fun c hc => ?_
  have h := List.all_eq_true.mp h1 c hc
  rcases Bool.eq_false_or_eq_true (isCode c) with hi | hi
  · exact h2 c (List.mem_filter.mpr ⟨hc, hi⟩)
  · simpa [hi] using h
set_option maxRecDepth 65536 in
theorem w_c0 : (Jvm.Cond.code x code maxLocals ret).before args0 about1 = true := code_word (m := ⟨1, 1⟩) (meth := k1m1) (c := k1c1) (by decide +kernel) rfl rfl rfl (by decide +kernel)
set_option maxRecDepth 65536 in
theorem w_c1 : (Jvm.Cond.code ({ cls := "com/example/border/border/BorderTablePrefixFunctionOfPinLaw", name := "unit", desc := "(JZ)C" } : Jvm.MethodName) method_3_code (4 : Nat) (Option.some Jvm.ClassFile.FieldType.char)).before args0 about1 = true := code_word (m := ⟨1, 2⟩) (meth := k1m2) (c := k1c2) (by decide +kernel) rfl rfl rfl (by decide +kernel)
set_option maxRecDepth 65536 in
theorem w_c2 : (Jvm.Cond.code ({ cls := "com/example/border/border/BorderTable", name := "prefixFunctionOf", desc := "([C)[I" } : Jvm.MethodName) prog_1_method_3_code (6 : Nat) (Option.some (Jvm.ClassFile.FieldType.array Jvm.ClassFile.FieldType.int))).before args0 about1 = true := code_word (m := ⟨2, 1⟩) (meth := k2m1) (c := k2c1) (by decide +kernel) rfl rfl rfl (by decide +kernel)
set_option maxRecDepth 65536 in
theorem w_c3 : (Jvm.Cond.code ({ cls := "com/example/border/border/BorderTablePrefixFunctionOfPinLaw", name := "ok", desc := "([I[C[CII)Z" } : Jvm.MethodName) method_4_code (5 : Nat) (Option.some Jvm.ClassFile.FieldType.boolean)).before args0 about1 = true := code_word (m := ⟨1, 3⟩) (meth := k1m3) (c := k1c3) (by decide +kernel) rfl rfl rfl (by decide +kernel)
set_option maxRecDepth 65536 in
theorem w_c4 : (Jvm.Cond.code ({ cls := "com/example/border/border/BorderTablePrefixFunctionOfPinLaw", name := "longest", desc := "([CI)I" } : Jvm.MethodName) method_7_code (2 : Nat) (Option.some Jvm.ClassFile.FieldType.int)).before args0 about1 = true := code_word (m := ⟨1, 6⟩) (meth := k1m6) (c := k1c6) (by decide +kernel) rfl rfl rfl (by decide +kernel)
set_option maxRecDepth 65536 in
theorem w_c5 : (Jvm.Cond.code ({ cls := "com/example/border/border/BorderTablePrefixFunctionOfPinLaw", name := "isBorder", desc := "([CII)Z" } : Jvm.MethodName) method_6_code (3 : Nat) (Option.some Jvm.ClassFile.FieldType.boolean)).before args0 about1 = true := code_word (m := ⟨1, 5⟩) (meth := k1m5) (c := k1c5) (by decide +kernel) rfl rfl rfl (by decide +kernel)
set_option maxRecDepth 65536 in
theorem w_c6 : (Jvm.Cond.code ({ cls := "com/example/border/border/BorderTablePrefixFunctionOfPinLaw", name := "eqAt", desc := "([CIII)Z" } : Jvm.MethodName) method_5_code (4 : Nat) (Option.some Jvm.ClassFile.FieldType.boolean)).before args0 about1 = true := code_word (m := ⟨1, 4⟩) (meth := k1m4) (c := k1c4) (by decide +kernel) rfl rfl rfl (by decide +kernel)
def codes1 : List Jvm.Cond := [Jvm.Cond.code x code maxLocals ret, Jvm.Cond.code ({ cls := "com/example/border/border/BorderTablePrefixFunctionOfPinLaw", name := "unit", desc := "(JZ)C" } : Jvm.MethodName) method_3_code (4 : Nat) (Option.some Jvm.ClassFile.FieldType.char), Jvm.Cond.code ({ cls := "com/example/border/border/BorderTable", name := "prefixFunctionOf", desc := "([C)[I" } : Jvm.MethodName) prog_1_method_3_code (6 : Nat) (Option.some (Jvm.ClassFile.FieldType.array Jvm.ClassFile.FieldType.int)), Jvm.Cond.code ({ cls := "com/example/border/border/BorderTablePrefixFunctionOfPinLaw", name := "ok", desc := "([I[C[CII)Z" } : Jvm.MethodName) method_4_code (5 : Nat) (Option.some Jvm.ClassFile.FieldType.boolean), Jvm.Cond.code ({ cls := "com/example/border/border/BorderTablePrefixFunctionOfPinLaw", name := "longest", desc := "([CI)I" } : Jvm.MethodName) method_7_code (2 : Nat) (Option.some Jvm.ClassFile.FieldType.int), Jvm.Cond.code ({ cls := "com/example/border/border/BorderTablePrefixFunctionOfPinLaw", name := "isBorder", desc := "([CII)Z" } : Jvm.MethodName) method_6_code (3 : Nat) (Option.some Jvm.ClassFile.FieldType.boolean), Jvm.Cond.code ({ cls := "com/example/border/border/BorderTablePrefixFunctionOfPinLaw", name := "eqAt", desc := "([CIII)Z" } : Jvm.MethodName) method_5_code (4 : Nat) (Option.some Jvm.ClassFile.FieldType.boolean)]
set_option maxRecDepth 65536 in
theorem codes_eq : words1.filter isCode = codes1 := rfl
theorem w_codes : ∀ c ∈ words1.filter isCode, c.before args0 about1 = true := by
  rw [codes_eq]
  intro c hc
  simp only [codes1, List.mem_cons, List.not_mem_nil, or_false] at hc
  rcases hc with rfl | rfl | rfl | rfl | rfl | rfl | rfl
  · exact w_c0
  · exact w_c1
  · exact w_c2
  · exact w_c3
  · exact w_c4
  · exact w_c5
  · exact w_c6
set_option maxRecDepth 65536 in
theorem w_t1 : (words1.take 24).all (fun c => isCode c || c.before args0 about1) = true := by decide +kernel
set_option maxRecDepth 65536 in
theorem w_t2 : (words1.drop 24).all (fun c => isCode c || c.before args0 about1) = true := by decide +kernel
theorem w_tables : (allAtoms (Jvm.Cond.code x code maxLocals ret :: tables_1)).before args0 about1 = true := by
  rw [allAtoms_all]
  show words1.all (fun c => c.before args0 about1) = true
  refine all_split ?_ w_codes
  rw [← List.take_append_drop 24 words1, List.all_append, w_t1, w_t2]
  rfl
set_option maxRecDepth 65536 in
theorem w_case : (Jvm.Cond.and given_1 narrow_1).before args0 about1 = true := by decide +kernel
theorem w_applies : (headSpec (Jvm.Cond.code x code maxLocals ret :: tables_1) room_1).applies x e0.platform about1 = true :=
  (Spec.applies_iff w_frames).mpr ⟨w_running, w_runnable, w_alone, w_named, w_hears, w_ripe, w_room, w_tables⟩
theorem atStart : AtStart classFile x code maxLocals ret World_1 tables_1 room_1 Calls_1 rest_1 Pre_1 launch0 p0 e0 about1 theMethod args0 below0 :=
  ⟨lists_1, trivial, launch0.admits_env _ _ _, launch0.least_env, fairChoices_fair.cas, fairChoices_fair.clock, w_frames, w_args, w_heap, w_applies, trivial, trivial, w_case⟩
end start1
theorem witness_1 : WitnessClaimed_1 := ⟨start1.p0, start1.e0, start1.about1, start1.theMethod, start1.args0, start1.below0, start1.atStart⟩
end Jvm.Pilot.@@N@@
