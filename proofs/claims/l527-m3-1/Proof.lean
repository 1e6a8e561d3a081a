import JvmDerived
import JvmDerived.Pilot.@@N@@Statement
import JvmDerived.Pilot.@@N@@Code
set_option linter.unusedVariables false
set_option linter.unusedSimpArgs false
@@BLOCK:NumsL.lean.txt@@
namespace Jvm.Pilot.@@N@@
open Jvm Jvm.ClassFile Sem Op Lib Jvm.Free Jvm.Stand Jvm.LawKit Jvm.RoadKit Bundle Jvm.Pilot.@@N@@.Jvm.D
section OwnKit
variable {p : Program} {l : Launch} {e : Env} {R : Room} {s : State} {m : MethodId} {args : Array Value} {below : List Frame} {meth : Method} {c : Code} {Z : State} {B : ByteArray} {ml : Nat} {own nm : String} {rt : Option FieldType} {n0 z0 n1 z1 kc ns : Nat} {EN : Outcome → State → List Loc → Prop} {T : State} {h h' : Heap} {kk nn kk' nn' : Nat} {Q : Option Value → Heap → Prop} {pc pc' pq : Nat} {L L' : Array Slot} {S : List Value} {a0 : Array Value}
/-- what one body's walk keeps throughout -/
def OCx (p : Program) (s : State) (m : MethodId) (meth : Method) (c : Code) (Z : State) (B : ByteArray) (ml : Nat) (own nm : String) (rt : Option FieldType) : Prop :=
  p.tables.exec = Jvm.exec ∧ Z.Warmed39 s.vm ∧ c.code = B ∧ c.maxLocals = ml ∧ s.vm.findClass own = some m.cls ∧ meth.name = nm ∧ meth.sig.returnType = rt ∧ meth.locks = false
/-- where the walk stands: the state T, its heap h, what was made so far -/
def OW (p : Program) (l : Launch) (e : Env) (R : Room) (s : State) (m : MethodId) (args : Array Value) (below : List Frame) (meth : Method) (c : Code) (Z : State) (B : ByteArray) (ml : Nat) (own nm : String) (rt : Option FieldType) (n0 z0 : Nat) (T : State) (h : Heap) (kk nn : Nat) : Prop :=
  OCx p s m meth c Z B ml own nm rt ∧ n0 ≤ z0 ∧ z0 ≤ h.size ∧ T.heap = h ∧ ∃ locs, Stand p l e R s m args below meth c T locs kk nn ∧ Fr n0 locs
/-- what a body leaves: its own word, and that nothing old was written or lost -/
def OQ (Q : Option Value → Heap → Prop) (z0 n0 : Nat) (v : Option Value) (h : Heap) (L : List Loc) : Prop := Q v h ∧ z0 ≤ h.size ∧ Fr n0 L
/-- the run from here ends well -/
def OF (p : Program) (e : Env) (below : List Frame) (n0 z0 : Nat) (EN : Outcome → State → List Loc → Prop) (Q : Option Value → Heap → Prop) (T : State) (f : JFrame) : Prop :=
  ∃ s₂ o, Steps p.tables e below (T.setTop f) s₂ ∧ s₂.status = .running ∧ Ended s₂ below o ∧ ∃ v L, o = .returned v ∧ OQ Q z0 n0 v s₂.heap L ∧ EN o s₂ L
/-- the end as the narrow frame has it -/
def ENn (s : State) (kc ns : Nat) : Outcome → State → List Loc → Prop := fun o t L => FrameEnd s o t L kc ns
theorem OW.here (W : OW p l e R s m args below meth c Z B ml own nm rt n0 z0 T h kk nn) : At T m c below := by obtain ⟨-, -, -, -, _, X, -⟩ := W; exact X.here
theorem OW.hx (W : OW p l e R s m args below meth c Z B ml own nm rt n0 z0 T h kk nn) : p.tables.exec = Jvm.exec := W.1.1
theorem OW.hZ (W : OW p l e R s m args below meth c Z B ml own nm rt n0 z0 T h kk nn) : Z.Warmed39 s.vm := W.1.2.1
theorem OW.by (W : OW p l e R s m args below meth c Z B ml own nm rt n0 z0 T h kk nn) : c.code = B := W.1.2.2.1
theorem OW.hml (W : OW p l e R s m args below meth c Z B ml own nm rt n0 z0 T h kk nn) : c.maxLocals = ml := W.1.2.2.2.1
theorem OW.hown (W : OW p l e R s m args below meth c Z B ml own nm rt n0 z0 T h kk nn) : s.vm.findClass own = some m.cls := W.1.2.2.2.2.1
theorem OW.le (W : OW p l e R s m args below meth c Z B ml own nm rt n0 z0 T h kk nn) : n0 ≤ h.size := Nat.le_trans W.2.1 W.2.2.1
theorem OF.step {T' : State} {f f' : JFrame} (hs : ∀ t, Steps p.tables e below (T'.setTop f') t → Steps p.tables e below (T.setTop f) t) (q : OF p e below n1 z1 EN Q T' f') : OF p e below n1 z1 EN Q T f := by
  obtain ⟨s₂, o, h1, h2⟩ := q
  exact ⟨s₂, o, hs _ h1, h2⟩
theorem OF.cast {f f' : JFrame} (q : f = f') (h : OF p e below n1 z1 EN Q T f') : OF p e below n1 z1 EN Q T f := q ▸ h
theorem o_iloadN {i : Fin 4} {v : Int32} (W : OW p l e R s m args below meth c Z B ml own nm rt n0 z0 T h kk nn) (hd : decode B pc = .ok (.iload_n i, 1)) (hl : L[i.val]? = some (.val (.int v))) (hp : pc + 1 = pc')
    (k1 : OF p e below n1 z1 EN Q T (mkF m pc' L (.int v :: S))) : OF p e below n1 z1 EN Q T (mkF m pc L S) := by
  subst hp; exact OF.step (fun t q => XS.iloadN W.here W.hx rfl (hb W.by hd) hl q) k1
theorem o_iload {i : Nat} {v : Int32} (W : OW p l e R s m args below meth c Z B ml own nm rt n0 z0 T h kk nn) (hd : decode B pc = .ok (.iload i, 2)) (hl : L[i]? = some (.val (.int v))) (hp : pc + 2 = pc')
    (k1 : OF p e below n1 z1 EN Q T (mkF m pc' L (.int v :: S))) : OF p e below n1 z1 EN Q T (mkF m pc L S) := by
  subst hp; exact OF.step (fun t q => XS.iload W.here W.hx rfl (hb W.by hd) hl q) k1
theorem o_lloadN {i : Fin 4} {v : Int64} (W : OW p l e R s m args below meth c Z B ml own nm rt n0 z0 T h kk nn) (hd : decode B pc = .ok (.lload_n i, 1)) (hl : L[i.val]? = some (.val (.long v))) (hp : pc + 1 = pc')
    (k1 : OF p e below n1 z1 EN Q T (mkF m pc' L (.long v :: S))) : OF p e below n1 z1 EN Q T (mkF m pc L S) := by
  subst hp; exact OF.step (fun t q => XS.lloadN W.here W.hx rfl (hb W.by hd) hl q) k1
theorem o_lload {i : Nat} {v : Int64} (W : OW p l e R s m args below meth c Z B ml own nm rt n0 z0 T h kk nn) (hd : decode B pc = .ok (.lload i, 2)) (hl : L[i]? = some (.val (.long v))) (hp : pc + 2 = pc')
    (k1 : OF p e below n1 z1 EN Q T (mkF m pc' L (.long v :: S))) : OF p e below n1 z1 EN Q T (mkF m pc L S) := by
  subst hp; exact OF.step (fun t q => XS.lload W.here W.hx rfl (hb W.by hd) hl q) k1
theorem o_aloadN {i : Fin 4} {v : Value} (W : OW p l e R s m args below meth c Z B ml own nm rt n0 z0 T h kk nn) (hd : decode B pc = .ok (.aload_n i, 1)) (hl : L[i.val]? = some (.val v)) (hv : v.isRef = true) (hp : pc + 1 = pc')
    (k1 : OF p e below n1 z1 EN Q T (mkF m pc' L (v :: S))) : OF p e below n1 z1 EN Q T (mkF m pc L S) := by
  subst hp; exact OF.step (fun t q => XS.aloadN W.here W.hx rfl (hb W.by hd) hl hv q) k1
theorem o_aload {i : Nat} {v : Value} (W : OW p l e R s m args below meth c Z B ml own nm rt n0 z0 T h kk nn) (hd : decode B pc = .ok (.aload i, 2)) (hl : L[i]? = some (.val v)) (hv : v.isRef = true) (hp : pc + 2 = pc')
    (k1 : OF p e below n1 z1 EN Q T (mkF m pc' L (v :: S))) : OF p e below n1 z1 EN Q T (mkF m pc L S) := by
  subst hp; exact OF.step (fun t q => XS.aload W.here W.hx rfl (hb W.by hd) hl hv q) k1
theorem o_istoreN {i : Fin 4} {x : Int32} (W : OW p l e R s m args below meth c Z B ml own nm rt n0 z0 T h kk nn) (hd : decode B pc = .ok (.istore_n i, 1)) (hl : storeLocals L i.val (.int x) = some L') (hp : pc + 1 = pc')
    (k1 : OF p e below n1 z1 EN Q T (mkF m pc' L' S)) : OF p e below n1 z1 EN Q T (mkF m pc L (.int x :: S)) := by
  subst hp; exact OF.step (fun t q => XS.istoreN W.here W.hx rfl (hb W.by hd) rfl hl q) k1
theorem o_istoreNG {i : Fin 4} {x : Int32} {Lf : Int32 → Array Slot} (W : OW p l e R s m args below meth c Z B ml own nm rt n0 z0 T h kk nn) (hd : decode B pc = .ok (.istore_n i, 1)) (hl : storeLocals L i.val (.int x) = some (Lf x)) (hp : pc + 1 = pc')
    (k1 : ∀ v, v = x → OF p e below n1 z1 EN Q T (mkF m pc' (Lf v) S)) : OF p e below n1 z1 EN Q T (mkF m pc L (.int x :: S)) := o_istoreN W hd hl hp (k1 x rfl)
theorem o_istore {i : Nat} {x : Int32} (W : OW p l e R s m args below meth c Z B ml own nm rt n0 z0 T h kk nn) (hd : decode B pc = .ok (.istore i, 2)) (hl : storeLocals L i (.int x) = some L') (hp : pc + 2 = pc')
    (k1 : OF p e below n1 z1 EN Q T (mkF m pc' L' S)) : OF p e below n1 z1 EN Q T (mkF m pc L (.int x :: S)) := by
  subst hp; exact OF.step (fun t q => XS.istore W.here W.hx rfl (hb W.by hd) rfl hl q) k1
theorem o_istoreG {i : Nat} {x : Int32} {Lf : Int32 → Array Slot} (W : OW p l e R s m args below meth c Z B ml own nm rt n0 z0 T h kk nn) (hd : decode B pc = .ok (.istore i, 2)) (hl : storeLocals L i (.int x) = some (Lf x)) (hp : pc + 2 = pc')
    (k1 : ∀ v, v = x → OF p e below n1 z1 EN Q T (mkF m pc' (Lf v) S)) : OF p e below n1 z1 EN Q T (mkF m pc L (.int x :: S)) := o_istore W hd hl hp (k1 x rfl)
theorem o_lstoreN {i : Fin 4} {x : Int64} (W : OW p l e R s m args below meth c Z B ml own nm rt n0 z0 T h kk nn) (hd : decode B pc = .ok (.lstore_n i, 1)) (hl : storeLocals L i.val (.long x) = some L') (hp : pc + 1 = pc')
    (k1 : OF p e below n1 z1 EN Q T (mkF m pc' L' S)) : OF p e below n1 z1 EN Q T (mkF m pc L (.long x :: S)) := by
  subst hp; exact OF.step (fun t q => XS.lstoreN W.here W.hx rfl (hb W.by hd) rfl hl q) k1
theorem o_lstoreNG {i : Fin 4} {x : Int64} {Lf : Int64 → Array Slot} (W : OW p l e R s m args below meth c Z B ml own nm rt n0 z0 T h kk nn) (hd : decode B pc = .ok (.lstore_n i, 1)) (hl : storeLocals L i.val (.long x) = some (Lf x)) (hp : pc + 1 = pc')
    (k1 : ∀ v, v = x → OF p e below n1 z1 EN Q T (mkF m pc' (Lf v) S)) : OF p e below n1 z1 EN Q T (mkF m pc L (.long x :: S)) := o_lstoreN W hd hl hp (k1 x rfl)
theorem o_lstore {i : Nat} {x : Int64} (W : OW p l e R s m args below meth c Z B ml own nm rt n0 z0 T h kk nn) (hd : decode B pc = .ok (.lstore i, 2)) (hl : storeLocals L i (.long x) = some L') (hp : pc + 2 = pc')
    (k1 : OF p e below n1 z1 EN Q T (mkF m pc' L' S)) : OF p e below n1 z1 EN Q T (mkF m pc L (.long x :: S)) := by
  subst hp; exact OF.step (fun t q => XS.lstore W.here W.hx rfl (hb W.by hd) rfl hl q) k1
theorem o_lstoreG {i : Nat} {x : Int64} {Lf : Int64 → Array Slot} (W : OW p l e R s m args below meth c Z B ml own nm rt n0 z0 T h kk nn) (hd : decode B pc = .ok (.lstore i, 2)) (hl : storeLocals L i (.long x) = some (Lf x)) (hp : pc + 2 = pc')
    (k1 : ∀ v, v = x → OF p e below n1 z1 EN Q T (mkF m pc' (Lf v) S)) : OF p e below n1 z1 EN Q T (mkF m pc L (.long x :: S)) := o_lstore W hd hl hp (k1 x rfl)
theorem o_astoreN {i : Fin 4} {x : Value} (W : OW p l e R s m args below meth c Z B ml own nm rt n0 z0 T h kk nn) (hd : decode B pc = .ok (.astore_n i, 1)) (hv : x.isRef = true) (hl : storeLocals L i.val x = some L') (hp : pc + 1 = pc')
    (k1 : OF p e below n1 z1 EN Q T (mkF m pc' L' S)) : OF p e below n1 z1 EN Q T (mkF m pc L (x :: S)) := by
  subst hp; exact OF.step (fun t q => XS.astoreN W.here W.hx rfl (hb W.by hd) rfl hv hl q) k1
theorem o_astore {i : Nat} {x : Value} (W : OW p l e R s m args below meth c Z B ml own nm rt n0 z0 T h kk nn) (hd : decode B pc = .ok (.astore i, 2)) (hv : x.isRef = true) (hl : storeLocals L i x = some L') (hp : pc + 2 = pc')
    (k1 : OF p e below n1 z1 EN Q T (mkF m pc' L' S)) : OF p e below n1 z1 EN Q T (mkF m pc L (x :: S)) := by
  subst hp; exact OF.step (fun t q => XS.astore W.here W.hx rfl (hb W.by hd) rfl hv hl q) k1
theorem o_iconst {i : Int} {v : Int32} (W : OW p l e R s m args below meth c Z B ml own nm rt n0 z0 T h kk nn) (hd : decode B pc = .ok (.iconst i, 1)) (hv : Int32.ofInt i = v) (hp : pc + 1 = pc')
    (k1 : OF p e below n1 z1 EN Q T (mkF m pc' L (.int v :: S))) : OF p e below n1 z1 EN Q T (mkF m pc L S) := by
  subst hp hv; exact OF.step (fun t q => XS.iconst W.here W.hx rfl (hb W.by hd) q) k1
theorem o_bipush {i : Int} {v : Int32} (W : OW p l e R s m args below meth c Z B ml own nm rt n0 z0 T h kk nn) (hd : decode B pc = .ok (.bipush i, 2)) (hv : (Int8.ofInt i).toInt32 = v) (hp : pc + 2 = pc')
    (k1 : OF p e below n1 z1 EN Q T (mkF m pc' L (.int v :: S))) : OF p e below n1 z1 EN Q T (mkF m pc L S) := by
  subst hp hv; exact OF.step (fun t q => XS.bipush W.here W.hx rfl (hb W.by hd) q) k1
theorem o_sipush {i : Int} {v : Int32} (W : OW p l e R s m args below meth c Z B ml own nm rt n0 z0 T h kk nn) (hd : decode B pc = .ok (.sipush i, 3)) (hv : (Int16.ofInt i).toInt32 = v) (hp : pc + 3 = pc')
    (k1 : OF p e below n1 z1 EN Q T (mkF m pc' L (.int v :: S))) : OF p e below n1 z1 EN Q T (mkF m pc L S) := by
  subst hp hv; exact OF.step (fun t q => XS.sipush W.here W.hx rfl (hb W.by hd) q) k1
theorem o_lconst {i : Fin 2} {v : Int64} (W : OW p l e R s m args below meth c Z B ml own nm rt n0 z0 T h kk nn) (hd : decode B pc = .ok (.lconst i, 1)) (hv : Int64.ofNat i = v) (hp : pc + 1 = pc')
    (k1 : OF p e below n1 z1 EN Q T (mkF m pc' L (.long v :: S))) : OF p e below n1 z1 EN Q T (mkF m pc L S) := by
  subst hp hv; exact OF.step (fun t q => XS.lconst W.here W.hx rfl (hb W.by hd) q) k1
theorem o_ldc {i : Nat} {v : Int32} (W : OW p l e R s m args below meth c Z B ml own nm rt n0 z0 T h kk nn) (w : (Jvm.Cond.constant own i v).before a0 Z = true) (hd : decode B pc = .ok (.ldc i, 2)) (hp : pc + 2 = pc')
    (k1 : OF p e below n1 z1 EN Q T (mkF m pc' L (.int v :: S))) : OF p e below n1 z1 EN Q T (mkF m pc L S) := by
  subst hp; obtain ⟨_, X, _⟩ := W.2.2.2.2; exact OF.step (fun t q => X.ldcInt W.hx W.hown (mvT W.hZ w) (g := mkF m pc L S) rfl (hb W.by hd) t q) k1
theorem o_ldc_w {i : Nat} {v : Int32} (W : OW p l e R s m args below meth c Z B ml own nm rt n0 z0 T h kk nn) (w : (Jvm.Cond.constant own i v).before a0 Z = true) (hd : decode B pc = .ok (.ldc_w i, 3)) (hp : pc + 3 = pc')
    (k1 : OF p e below n1 z1 EN Q T (mkF m pc' L (.int v :: S))) : OF p e below n1 z1 EN Q T (mkF m pc L S) := by
  subst hp; obtain ⟨_, X, _⟩ := W.2.2.2.2; exact OF.step (fun t q => X.ldcwInt W.hx W.hown (mvT W.hZ w) (g := mkF m pc L S) rfl (hb W.by hd) t q) k1
theorem o_ldc2_w {i : Nat} {v : Int64} (W : OW p l e R s m args below meth c Z B ml own nm rt n0 z0 T h kk nn) (w : (Jvm.Cond.constantLong own i v).before a0 Z = true) (hd : decode B pc = .ok (.ldc2_w i, 3)) (hp : pc + 3 = pc')
    (k1 : OF p e below n1 z1 EN Q T (mkF m pc' L (.long v :: S))) : OF p e below n1 z1 EN Q T (mkF m pc L S) := by
  subst hp; obtain ⟨_, X, _⟩ := W.2.2.2.2; exact OF.step (fun t q => X.ldc2Long W.hx W.hown (mvT W.hZ w) (g := mkF m pc L S) rfl (hb W.by hd) t q) k1
theorem o_iadd {x y : Int32} (W : OW p l e R s m args below meth c Z B ml own nm rt n0 z0 T h kk nn) (hd : decode B pc = .ok (.iadd, 1)) (hp : pc + 1 = pc')
    (k1 : OF p e below n1 z1 EN Q T (mkF m pc' L (.int (x + y) :: S))) : OF p e below n1 z1 EN Q T (mkF m pc L (.int y :: .int x :: S)) := by
  subst hp; exact OF.step (fun t q => XS.iadd W.here W.hx rfl (hb W.by hd) rfl q) k1
theorem o_isub {x y : Int32} (W : OW p l e R s m args below meth c Z B ml own nm rt n0 z0 T h kk nn) (hd : decode B pc = .ok (.isub, 1)) (hp : pc + 1 = pc')
    (k1 : OF p e below n1 z1 EN Q T (mkF m pc' L (.int (x - y) :: S))) : OF p e below n1 z1 EN Q T (mkF m pc L (.int y :: .int x :: S)) := by
  subst hp; exact OF.step (fun t q => XS.isub W.here W.hx rfl (hb W.by hd) rfl q) k1
theorem o_imul {x y : Int32} (W : OW p l e R s m args below meth c Z B ml own nm rt n0 z0 T h kk nn) (hd : decode B pc = .ok (.imul, 1)) (hp : pc + 1 = pc')
    (k1 : OF p e below n1 z1 EN Q T (mkF m pc' L (.int (x * y) :: S))) : OF p e below n1 z1 EN Q T (mkF m pc L (.int y :: .int x :: S)) := by
  subst hp; exact OF.step (fun t q => XS.imul W.here W.hx rfl (hb W.by hd) rfl q) k1
theorem o_iand {x y : Int32} (W : OW p l e R s m args below meth c Z B ml own nm rt n0 z0 T h kk nn) (hd : decode B pc = .ok (.iand, 1)) (hp : pc + 1 = pc')
    (k1 : OF p e below n1 z1 EN Q T (mkF m pc' L (.int (x &&& y) :: S))) : OF p e below n1 z1 EN Q T (mkF m pc L (.int y :: .int x :: S)) := by
  subst hp; exact OF.step (fun t q => XS.iand W.here W.hx rfl (hb W.by hd) rfl q) k1
theorem o_ior {x y : Int32} (W : OW p l e R s m args below meth c Z B ml own nm rt n0 z0 T h kk nn) (hd : decode B pc = .ok (.ior, 1)) (hp : pc + 1 = pc')
    (k1 : OF p e below n1 z1 EN Q T (mkF m pc' L (.int (x ||| y) :: S))) : OF p e below n1 z1 EN Q T (mkF m pc L (.int y :: .int x :: S)) := by
  subst hp; exact OF.step (fun t q => XS.ior W.here W.hx rfl (hb W.by hd) rfl q) k1
theorem o_ixor {x y : Int32} (W : OW p l e R s m args below meth c Z B ml own nm rt n0 z0 T h kk nn) (hd : decode B pc = .ok (.ixor, 1)) (hp : pc + 1 = pc')
    (k1 : OF p e below n1 z1 EN Q T (mkF m pc' L (.int (x ^^^ y) :: S))) : OF p e below n1 z1 EN Q T (mkF m pc L (.int y :: .int x :: S)) := by
  subst hp; exact OF.step (fun t q => XS.ixor W.here W.hx rfl (hb W.by hd) rfl q) k1
theorem o_ishl {x y : Int32} (W : OW p l e R s m args below meth c Z B ml own nm rt n0 z0 T h kk nn) (hd : decode B pc = .ok (.ishl, 1)) (hp : pc + 1 = pc')
    (k1 : OF p e below n1 z1 EN Q T (mkF m pc' L (.int (x <<< (y &&& 31)) :: S))) : OF p e below n1 z1 EN Q T (mkF m pc L (.int y :: .int x :: S)) := by
  subst hp; exact OF.step (fun t q => XS.ishl W.here W.hx rfl (hb W.by hd) rfl q) k1
theorem o_ishr {x y : Int32} (W : OW p l e R s m args below meth c Z B ml own nm rt n0 z0 T h kk nn) (hd : decode B pc = .ok (.ishr, 1)) (hp : pc + 1 = pc')
    (k1 : OF p e below n1 z1 EN Q T (mkF m pc' L (.int (x >>> (y &&& 31)) :: S))) : OF p e below n1 z1 EN Q T (mkF m pc L (.int y :: .int x :: S)) := by
  subst hp; exact OF.step (fun t q => XS.ishr W.here W.hx rfl (hb W.by hd) rfl q) k1
theorem o_iushr {x y : Int32} (W : OW p l e R s m args below meth c Z B ml own nm rt n0 z0 T h kk nn) (hd : decode B pc = .ok (.iushr, 1)) (hp : pc + 1 = pc')
    (k1 : OF p e below n1 z1 EN Q T (mkF m pc' L (.int ((x.toUInt32 >>> (y &&& 31).toUInt32).toInt32) :: S))) : OF p e below n1 z1 EN Q T (mkF m pc L (.int y :: .int x :: S)) := by
  subst hp; exact OF.step (fun t q => XS.iushr W.here W.hx rfl (hb W.by hd) rfl q) k1
theorem o_idiv {x y : Int32} (W : OW p l e R s m args below meth c Z B ml own nm rt n0 z0 T h kk nn) (hd : decode B pc = .ok (.idiv, 1)) (hy : y ≠ 0) (hp : pc + 1 = pc')
    (k1 : OF p e below n1 z1 EN Q T (mkF m pc' L (.int (x / y) :: S))) : OF p e below n1 z1 EN Q T (mkF m pc L (.int y :: .int x :: S)) := by
  subst hp; exact OF.step (fun t q => XS.idiv W.here W.hx rfl (hb W.by hd) rfl hy q) k1
theorem o_irem {x y : Int32} (W : OW p l e R s m args below meth c Z B ml own nm rt n0 z0 T h kk nn) (hd : decode B pc = .ok (.irem, 1)) (hy : y ≠ 0) (hp : pc + 1 = pc')
    (k1 : OF p e below n1 z1 EN Q T (mkF m pc' L (.int (x - (x / y) * y) :: S))) : OF p e below n1 z1 EN Q T (mkF m pc L (.int y :: .int x :: S)) := by
  subst hp; exact OF.step (fun t q => XS.irem W.here W.hx rfl (hb W.by hd) rfl hy q) k1
theorem o_ladd {x y : Int64} (W : OW p l e R s m args below meth c Z B ml own nm rt n0 z0 T h kk nn) (hd : decode B pc = .ok (.ladd, 1)) (hp : pc + 1 = pc')
    (k1 : OF p e below n1 z1 EN Q T (mkF m pc' L (.long (x + y) :: S))) : OF p e below n1 z1 EN Q T (mkF m pc L (.long y :: .long x :: S)) := by
  subst hp; exact OF.step (fun t q => XS.ladd W.here W.hx rfl (hb W.by hd) rfl q) k1
theorem o_lsub {x y : Int64} (W : OW p l e R s m args below meth c Z B ml own nm rt n0 z0 T h kk nn) (hd : decode B pc = .ok (.lsub, 1)) (hp : pc + 1 = pc')
    (k1 : OF p e below n1 z1 EN Q T (mkF m pc' L (.long (x - y) :: S))) : OF p e below n1 z1 EN Q T (mkF m pc L (.long y :: .long x :: S)) := by
  subst hp; exact OF.step (fun t q => XS.lsub W.here W.hx rfl (hb W.by hd) rfl q) k1
theorem o_lmul {x y : Int64} (W : OW p l e R s m args below meth c Z B ml own nm rt n0 z0 T h kk nn) (hd : decode B pc = .ok (.lmul, 1)) (hp : pc + 1 = pc')
    (k1 : OF p e below n1 z1 EN Q T (mkF m pc' L (.long (x * y) :: S))) : OF p e below n1 z1 EN Q T (mkF m pc L (.long y :: .long x :: S)) := by
  subst hp; exact OF.step (fun t q => XS.lmul W.here W.hx rfl (hb W.by hd) rfl q) k1
theorem o_land {x y : Int64} (W : OW p l e R s m args below meth c Z B ml own nm rt n0 z0 T h kk nn) (hd : decode B pc = .ok (.land, 1)) (hp : pc + 1 = pc')
    (k1 : OF p e below n1 z1 EN Q T (mkF m pc' L (.long (x &&& y) :: S))) : OF p e below n1 z1 EN Q T (mkF m pc L (.long y :: .long x :: S)) := by
  subst hp; exact OF.step (fun t q => XS.land W.here W.hx rfl (hb W.by hd) rfl q) k1
theorem o_lor {x y : Int64} (W : OW p l e R s m args below meth c Z B ml own nm rt n0 z0 T h kk nn) (hd : decode B pc = .ok (.lor, 1)) (hp : pc + 1 = pc')
    (k1 : OF p e below n1 z1 EN Q T (mkF m pc' L (.long (x ||| y) :: S))) : OF p e below n1 z1 EN Q T (mkF m pc L (.long y :: .long x :: S)) := by
  subst hp; exact OF.step (fun t q => XS.lor W.here W.hx rfl (hb W.by hd) rfl q) k1
theorem o_lxor {x y : Int64} (W : OW p l e R s m args below meth c Z B ml own nm rt n0 z0 T h kk nn) (hd : decode B pc = .ok (.lxor, 1)) (hp : pc + 1 = pc')
    (k1 : OF p e below n1 z1 EN Q T (mkF m pc' L (.long (x ^^^ y) :: S))) : OF p e below n1 z1 EN Q T (mkF m pc L (.long y :: .long x :: S)) := by
  subst hp; exact OF.step (fun t q => XS.lxor W.here W.hx rfl (hb W.by hd) rfl q) k1
theorem o_ldiv {x y : Int64} (W : OW p l e R s m args below meth c Z B ml own nm rt n0 z0 T h kk nn) (hd : decode B pc = .ok (.ldiv, 1)) (hy : y ≠ 0) (hp : pc + 1 = pc')
    (k1 : OF p e below n1 z1 EN Q T (mkF m pc' L (.long (x / y) :: S))) : OF p e below n1 z1 EN Q T (mkF m pc L (.long y :: .long x :: S)) := by
  subst hp; exact OF.step (fun t q => XS.ldiv W.here W.hx rfl (hb W.by hd) rfl hy q) k1
theorem o_lrem {x y : Int64} (W : OW p l e R s m args below meth c Z B ml own nm rt n0 z0 T h kk nn) (hd : decode B pc = .ok (.lrem, 1)) (hy : y ≠ 0) (hp : pc + 1 = pc')
    (k1 : OF p e below n1 z1 EN Q T (mkF m pc' L (.long (x - (x / y) * y) :: S))) : OF p e below n1 z1 EN Q T (mkF m pc L (.long y :: .long x :: S)) := by
  subst hp; exact OF.step (fun t q => XS.lrem W.here W.hx rfl (hb W.by hd) rfl hy q) k1
theorem o_lshl {x : Int64} {y : Int32} (W : OW p l e R s m args below meth c Z B ml own nm rt n0 z0 T h kk nn) (hd : decode B pc = .ok (.lshl, 1)) (hp : pc + 1 = pc')
    (k1 : OF p e below n1 z1 EN Q T (mkF m pc' L (.long (x <<< (y &&& 0x3f).toInt64) :: S))) : OF p e below n1 z1 EN Q T (mkF m pc L (.int y :: .long x :: S)) := by
  subst hp; exact OF.step (fun t q => XS.lshl W.here W.hx rfl (hb W.by hd) rfl q) k1
theorem o_lshr {x : Int64} {y : Int32} (W : OW p l e R s m args below meth c Z B ml own nm rt n0 z0 T h kk nn) (hd : decode B pc = .ok (.lshr, 1)) (hp : pc + 1 = pc')
    (k1 : OF p e below n1 z1 EN Q T (mkF m pc' L (.long (x >>> (y &&& 0x3f).toInt64) :: S))) : OF p e below n1 z1 EN Q T (mkF m pc L (.int y :: .long x :: S)) := by
  subst hp; exact OF.step (fun t q => XS.lshr W.here W.hx rfl (hb W.by hd) rfl q) k1
theorem o_lushr {x : Int64} {y : Int32} (W : OW p l e R s m args below meth c Z B ml own nm rt n0 z0 T h kk nn) (hd : decode B pc = .ok (.lushr, 1)) (hp : pc + 1 = pc')
    (k1 : OF p e below n1 z1 EN Q T (mkF m pc' L (.long ((x.toUInt64 >>> (y &&& 0x3f).toInt64.toUInt64).toInt64) :: S))) : OF p e below n1 z1 EN Q T (mkF m pc L (.int y :: .long x :: S)) := by
  subst hp; exact OF.step (fun t q => XS.lushr W.here W.hx rfl (hb W.by hd) rfl q) k1
theorem o_i2b {x : Int32} (W : OW p l e R s m args below meth c Z B ml own nm rt n0 z0 T h kk nn) (hd : decode B pc = .ok (.i2b, 1)) (hp : pc + 1 = pc')
    (k1 : OF p e below n1 z1 EN Q T (mkF m pc' L (.int (x.toInt8.toInt32) :: S))) : OF p e below n1 z1 EN Q T (mkF m pc L (.int x :: S)) := by
  subst hp; exact OF.step (fun t q => XS.i2b W.here W.hx rfl (hb W.by hd) rfl q) k1
theorem o_i2c {x : Int32} (W : OW p l e R s m args below meth c Z B ml own nm rt n0 z0 T h kk nn) (hd : decode B pc = .ok (.i2c, 1)) (hp : pc + 1 = pc')
    (k1 : OF p e below n1 z1 EN Q T (mkF m pc' L (.int (x.toUInt32.toUInt16.toUInt32.toInt32) :: S))) : OF p e below n1 z1 EN Q T (mkF m pc L (.int x :: S)) := by
  subst hp; exact OF.step (fun t q => XS.i2c W.here W.hx rfl (hb W.by hd) rfl q) k1
theorem o_i2s {x : Int32} (W : OW p l e R s m args below meth c Z B ml own nm rt n0 z0 T h kk nn) (hd : decode B pc = .ok (.i2s, 1)) (hp : pc + 1 = pc')
    (k1 : OF p e below n1 z1 EN Q T (mkF m pc' L (.int (x.toInt16.toInt32) :: S))) : OF p e below n1 z1 EN Q T (mkF m pc L (.int x :: S)) := by
  subst hp; exact OF.step (fun t q => XS.i2s W.here W.hx rfl (hb W.by hd) rfl q) k1
theorem o_i2l {x : Int32} (W : OW p l e R s m args below meth c Z B ml own nm rt n0 z0 T h kk nn) (hd : decode B pc = .ok (.i2l, 1)) (hp : pc + 1 = pc')
    (k1 : OF p e below n1 z1 EN Q T (mkF m pc' L (.long (x.toInt64) :: S))) : OF p e below n1 z1 EN Q T (mkF m pc L (.int x :: S)) := by
  subst hp; exact OF.step (fun t q => XS.i2l W.here W.hx rfl (hb W.by hd) rfl q) k1
theorem o_l2i {x : Int64} (W : OW p l e R s m args below meth c Z B ml own nm rt n0 z0 T h kk nn) (hd : decode B pc = .ok (.l2i, 1)) (hp : pc + 1 = pc')
    (k1 : OF p e below n1 z1 EN Q T (mkF m pc' L (.int (x.toInt32) :: S))) : OF p e below n1 z1 EN Q T (mkF m pc L (.long x :: S)) := by
  subst hp; exact OF.step (fun t q => XS.l2i W.here W.hx rfl (hb W.by hd) rfl q) k1
theorem o_dup {x : Value} (W : OW p l e R s m args below meth c Z B ml own nm rt n0 z0 T h kk nn) (hd : decode B pc = .ok (.dup, 1)) (hc : x.category = 1) (hp : pc + 1 = pc')
    (k1 : OF p e below n1 z1 EN Q T (mkF m pc' L (x :: x :: S))) : OF p e below n1 z1 EN Q T (mkF m pc L (x :: S)) := by
  subst hp; exact OF.step (fun t q => XS.dup W.here W.hx rfl (hb W.by hd) rfl hc q) k1
theorem o_pop {x : Value} (W : OW p l e R s m args below meth c Z B ml own nm rt n0 z0 T h kk nn) (hd : decode B pc = .ok (.pop, 1)) (hc : x.category = 1) (hp : pc + 1 = pc')
    (k1 : OF p e below n1 z1 EN Q T (mkF m pc' L S)) : OF p e below n1 z1 EN Q T (mkF m pc L (x :: S)) := by
  subst hp; exact OF.step (fun t q => XS.pop W.here W.hx rfl (hb W.by hd) rfl hc q) k1
theorem o_dup2 {x y : Value} (W : OW p l e R s m args below meth c Z B ml own nm rt n0 z0 T h kk nn) (hd : decode B pc = .ok (.dup2, 1)) (hc : x.category = 1) (hc' : y.category = 1) (hp : pc + 1 = pc')
    (k1 : OF p e below n1 z1 EN Q T (mkF m pc' L (x :: y :: x :: y :: S))) : OF p e below n1 z1 EN Q T (mkF m pc L (x :: y :: S)) := by
  subst hp; exact OF.step (fun t q => XT.dup2 W.here W.hx rfl (hb W.by hd) rfl hc hc' q) k1
theorem o_iinc {i : Nat} {z : Int} {x : Int32} (W : OW p l e R s m args below meth c Z B ml own nm rt n0 z0 T h kk nn) (hd : decode B pc = .ok (.iinc i z, 3)) (hl : L[i]? = some (.val (.int x))) (hl' : storeLocals L i (.int (x + Int32.ofInt z)) = some L') (hp : pc + 3 = pc')
    (k1 : OF p e below n1 z1 EN Q T (mkF m pc' L' S)) : OF p e below n1 z1 EN Q T (mkF m pc L S) := by
  subst hp; exact OF.step (fun t q => XS.iinc W.here W.hx rfl (hb W.by hd) hl hl' q) k1
theorem o_goto {o : Int} (W : OW p l e R s m args below meth c Z B ml own nm rt n0 z0 T h kk nn) (hd : decode B pc = .ok (.goto o, 3)) (ho : 0 ≤ (pc : Int) + o) (hq : ((pc : Int) + o).toNat = pq)
    (k1 : OF p e below n1 z1 EN Q T (mkF m pq L S)) : OF p e below n1 z1 EN Q T (mkF m pc L S) := OF.step (fun t q => XS.goto W.here W.hx rfl rfl (hb W.by hd) ho hq q) k1
theorem o_lt {x y : Int32} (q : x.toInt < y.toInt) : x < y := Int32.lt_iff_toInt_lt.mpr q
theorem o_nlt {x y : Int32} (q : y.toInt ≤ x.toInt) : ¬ x < y := fun z => by rw [Int32.lt_iff_toInt_lt] at z; omega
theorem o_eq {x y : Int32} (q : x.toInt = y.toInt) : x = y := Int32.toInt_inj.mp q
theorem o_ne {x y : Int32} (q : ¬ x.toInt = y.toInt) : ¬ x = y := fun z => q (congrArg Int32.toInt z)
theorem o_zero : (0 : Int32).toInt = 0 := rfl
theorem o_llt {x y : Int64} (q : x.toInt < y.toInt) : x < y := Int64.lt_iff_toInt_lt.mpr q
theorem o_nllt {x y : Int64} (q : y.toInt ≤ x.toInt) : ¬ x < y := fun z => by rw [Int64.lt_iff_toInt_lt] at z; omega
theorem o_leq {x y : Int64} (q : x.toInt = y.toInt) : x = y := Int64.toInt_inj.mp q
theorem o_lne {x y : Int64} (q : ¬ x.toInt = y.toInt) : ¬ x = y := fun z => q (congrArg Int64.toInt z)
theorem o_icmp_lt {x y : Int32} {o : Int} (W : OW p l e R s m args below meth c Z B ml own nm rt n0 z0 T h kk nn) (hd : decode B pc = .ok (.if_icmp .lt o, 3)) (ho : 0 ≤ (pc : Int) + o) (hq : ((pc : Int) + o).toNat = pq) (hp : pc + 3 = pc')
    (ky : x.toInt < y.toInt → OF p e below n1 z1 EN Q T (mkF m pq L S)) (kn : y.toInt ≤ x.toInt → OF p e below n1 z1 EN Q T (mkF m pc' L S)) : OF p e below n1 z1 EN Q T (mkF m pc L (.int y :: .int x :: S)) := by
  subst hp
  rcases Int.lt_or_le (x.toInt) (y.toInt) with q | q
  · exact OF.step (fun t z => XS.icmpYes W.here W.hx rfl rfl (hb W.by hd) rfl (tlt (o_lt q)).1 ho hq z) (ky q)
  · exact OF.step (fun t z => XS.icmpNo W.here W.hx rfl (hb W.by hd) rfl (flt (o_nlt q)).1 z) (kn q)
theorem o_icmp_ge {x y : Int32} {o : Int} (W : OW p l e R s m args below meth c Z B ml own nm rt n0 z0 T h kk nn) (hd : decode B pc = .ok (.if_icmp .ge o, 3)) (ho : 0 ≤ (pc : Int) + o) (hq : ((pc : Int) + o).toNat = pq) (hp : pc + 3 = pc')
    (ky : y.toInt ≤ x.toInt → OF p e below n1 z1 EN Q T (mkF m pq L S)) (kn : x.toInt < y.toInt → OF p e below n1 z1 EN Q T (mkF m pc' L S)) : OF p e below n1 z1 EN Q T (mkF m pc L (.int y :: .int x :: S)) := by
  subst hp
  rcases (Int.lt_or_le (x.toInt) (y.toInt)).symm with q | q
  · exact OF.step (fun t z => XS.icmpYes W.here W.hx rfl rfl (hb W.by hd) rfl (flt (o_nlt q)).2.1 ho hq z) (ky q)
  · exact OF.step (fun t z => XS.icmpNo W.here W.hx rfl (hb W.by hd) rfl (tlt (o_lt q)).2.1 z) (kn q)
theorem o_icmp_gt {x y : Int32} {o : Int} (W : OW p l e R s m args below meth c Z B ml own nm rt n0 z0 T h kk nn) (hd : decode B pc = .ok (.if_icmp .gt o, 3)) (ho : 0 ≤ (pc : Int) + o) (hq : ((pc : Int) + o).toNat = pq) (hp : pc + 3 = pc')
    (ky : y.toInt < x.toInt → OF p e below n1 z1 EN Q T (mkF m pq L S)) (kn : x.toInt ≤ y.toInt → OF p e below n1 z1 EN Q T (mkF m pc' L S)) : OF p e below n1 z1 EN Q T (mkF m pc L (.int y :: .int x :: S)) := by
  subst hp
  rcases Int.lt_or_le (y.toInt) (x.toInt) with q | q
  · exact OF.step (fun t z => XS.icmpYes W.here W.hx rfl rfl (hb W.by hd) rfl (tlt (o_lt q)).2.2.1 ho hq z) (ky q)
  · exact OF.step (fun t z => XS.icmpNo W.here W.hx rfl (hb W.by hd) rfl (flt (o_nlt q)).2.2.1 z) (kn q)
theorem o_icmp_le {x y : Int32} {o : Int} (W : OW p l e R s m args below meth c Z B ml own nm rt n0 z0 T h kk nn) (hd : decode B pc = .ok (.if_icmp .le o, 3)) (ho : 0 ≤ (pc : Int) + o) (hq : ((pc : Int) + o).toNat = pq) (hp : pc + 3 = pc')
    (ky : x.toInt ≤ y.toInt → OF p e below n1 z1 EN Q T (mkF m pq L S)) (kn : y.toInt < x.toInt → OF p e below n1 z1 EN Q T (mkF m pc' L S)) : OF p e below n1 z1 EN Q T (mkF m pc L (.int y :: .int x :: S)) := by
  subst hp
  rcases (Int.lt_or_le (y.toInt) (x.toInt)).symm with q | q
  · exact OF.step (fun t z => XS.icmpYes W.here W.hx rfl rfl (hb W.by hd) rfl (flt (o_nlt q)).2.2.2 ho hq z) (ky q)
  · exact OF.step (fun t z => XS.icmpNo W.here W.hx rfl (hb W.by hd) rfl (tlt (o_lt q)).2.2.2 z) (kn q)
theorem o_icmp_eq {x y : Int32} {o : Int} (W : OW p l e R s m args below meth c Z B ml own nm rt n0 z0 T h kk nn) (hd : decode B pc = .ok (.if_icmp .eq o, 3)) (ho : 0 ≤ (pc : Int) + o) (hq : ((pc : Int) + o).toNat = pq) (hp : pc + 3 = pc')
    (ky : x.toInt = y.toInt → OF p e below n1 z1 EN Q T (mkF m pq L S)) (kn : ¬ x.toInt = y.toInt → OF p e below n1 z1 EN Q T (mkF m pc' L S)) : OF p e below n1 z1 EN Q T (mkF m pc L (.int y :: .int x :: S)) := by
  subst hp
  rcases Decidable.em (x.toInt = y.toInt) with q | q
  · exact OF.step (fun t z => XS.icmpYes W.here W.hx rfl rfl (hb W.by hd) rfl (teq (o_eq q)).1 ho hq z) (ky q)
  · exact OF.step (fun t z => XS.icmpNo W.here W.hx rfl (hb W.by hd) rfl (feq (o_ne q)).1 z) (kn q)
theorem o_icmp_ne {x y : Int32} {o : Int} (W : OW p l e R s m args below meth c Z B ml own nm rt n0 z0 T h kk nn) (hd : decode B pc = .ok (.if_icmp .ne o, 3)) (ho : 0 ≤ (pc : Int) + o) (hq : ((pc : Int) + o).toNat = pq) (hp : pc + 3 = pc')
    (ky : ¬ x.toInt = y.toInt → OF p e below n1 z1 EN Q T (mkF m pq L S)) (kn : x.toInt = y.toInt → OF p e below n1 z1 EN Q T (mkF m pc' L S)) : OF p e below n1 z1 EN Q T (mkF m pc L (.int y :: .int x :: S)) := by
  subst hp
  rcases (Decidable.em (x.toInt = y.toInt)).symm with q | q
  · exact OF.step (fun t z => XS.icmpYes W.here W.hx rfl rfl (hb W.by hd) rfl (feq (o_ne q)).2 ho hq z) (ky q)
  · exact OF.step (fun t z => XS.icmpNo W.here W.hx rfl (hb W.by hd) rfl (teq (o_eq q)).2 z) (kn q)
theorem o_if_lt {x : Int32} {o : Int} (W : OW p l e R s m args below meth c Z B ml own nm rt n0 z0 T h kk nn) (hd : decode B pc = .ok (.ifCond .lt o, 3)) (ho : 0 ≤ (pc : Int) + o) (hq : ((pc : Int) + o).toNat = pq) (hp : pc + 3 = pc')
    (ky : x.toInt < 0 → OF p e below n1 z1 EN Q T (mkF m pq L S)) (kn : 0 ≤ x.toInt → OF p e below n1 z1 EN Q T (mkF m pc' L S)) : OF p e below n1 z1 EN Q T (mkF m pc L (.int x :: S)) := by
  subst hp
  rcases Int.lt_or_le (x.toInt) (0) with q | q
  · exact OF.step (fun t z => XS.ifYes W.here W.hx rfl rfl (hb W.by hd) rfl ((if0 _ _).trans (tlt (o_lt (x := x) (y := 0) q)).1) ho hq z) (ky q)
  · exact OF.step (fun t z => XS.ifNo W.here W.hx rfl (hb W.by hd) rfl ((if0 _ _).trans (flt (o_nlt (x := x) (y := 0) q)).1) z) (kn q)
theorem o_if_ge {x : Int32} {o : Int} (W : OW p l e R s m args below meth c Z B ml own nm rt n0 z0 T h kk nn) (hd : decode B pc = .ok (.ifCond .ge o, 3)) (ho : 0 ≤ (pc : Int) + o) (hq : ((pc : Int) + o).toNat = pq) (hp : pc + 3 = pc')
    (ky : 0 ≤ x.toInt → OF p e below n1 z1 EN Q T (mkF m pq L S)) (kn : x.toInt < 0 → OF p e below n1 z1 EN Q T (mkF m pc' L S)) : OF p e below n1 z1 EN Q T (mkF m pc L (.int x :: S)) := by
  subst hp
  rcases (Int.lt_or_le (x.toInt) (0)).symm with q | q
  · exact OF.step (fun t z => XS.ifYes W.here W.hx rfl rfl (hb W.by hd) rfl ((if0 _ _).trans (flt (o_nlt (x := x) (y := 0) q)).2.1) ho hq z) (ky q)
  · exact OF.step (fun t z => XS.ifNo W.here W.hx rfl (hb W.by hd) rfl ((if0 _ _).trans (tlt (o_lt (x := x) (y := 0) q)).2.1) z) (kn q)
theorem o_if_gt {x : Int32} {o : Int} (W : OW p l e R s m args below meth c Z B ml own nm rt n0 z0 T h kk nn) (hd : decode B pc = .ok (.ifCond .gt o, 3)) (ho : 0 ≤ (pc : Int) + o) (hq : ((pc : Int) + o).toNat = pq) (hp : pc + 3 = pc')
    (ky : 0 < x.toInt → OF p e below n1 z1 EN Q T (mkF m pq L S)) (kn : x.toInt ≤ 0 → OF p e below n1 z1 EN Q T (mkF m pc' L S)) : OF p e below n1 z1 EN Q T (mkF m pc L (.int x :: S)) := by
  subst hp
  rcases Int.lt_or_le (0) (x.toInt) with q | q
  · exact OF.step (fun t z => XS.ifYes W.here W.hx rfl rfl (hb W.by hd) rfl ((if0 _ _).trans (tlt (o_lt (x := 0) (y := x) q)).2.2.1) ho hq z) (ky q)
  · exact OF.step (fun t z => XS.ifNo W.here W.hx rfl (hb W.by hd) rfl ((if0 _ _).trans (flt (o_nlt (x := 0) (y := x) q)).2.2.1) z) (kn q)
theorem o_if_le {x : Int32} {o : Int} (W : OW p l e R s m args below meth c Z B ml own nm rt n0 z0 T h kk nn) (hd : decode B pc = .ok (.ifCond .le o, 3)) (ho : 0 ≤ (pc : Int) + o) (hq : ((pc : Int) + o).toNat = pq) (hp : pc + 3 = pc')
    (ky : x.toInt ≤ 0 → OF p e below n1 z1 EN Q T (mkF m pq L S)) (kn : 0 < x.toInt → OF p e below n1 z1 EN Q T (mkF m pc' L S)) : OF p e below n1 z1 EN Q T (mkF m pc L (.int x :: S)) := by
  subst hp
  rcases (Int.lt_or_le (0) (x.toInt)).symm with q | q
  · exact OF.step (fun t z => XS.ifYes W.here W.hx rfl rfl (hb W.by hd) rfl ((if0 _ _).trans (flt (o_nlt (x := 0) (y := x) q)).2.2.2) ho hq z) (ky q)
  · exact OF.step (fun t z => XS.ifNo W.here W.hx rfl (hb W.by hd) rfl ((if0 _ _).trans (tlt (o_lt (x := 0) (y := x) q)).2.2.2) z) (kn q)
theorem o_if_eq {x : Int32} {o : Int} (W : OW p l e R s m args below meth c Z B ml own nm rt n0 z0 T h kk nn) (hd : decode B pc = .ok (.ifCond .eq o, 3)) (ho : 0 ≤ (pc : Int) + o) (hq : ((pc : Int) + o).toNat = pq) (hp : pc + 3 = pc')
    (ky : x.toInt = 0 → OF p e below n1 z1 EN Q T (mkF m pq L S)) (kn : ¬ x.toInt = 0 → OF p e below n1 z1 EN Q T (mkF m pc' L S)) : OF p e below n1 z1 EN Q T (mkF m pc L (.int x :: S)) := by
  subst hp
  rcases Decidable.em (x.toInt = 0) with q | q
  · exact OF.step (fun t z => XS.ifYes W.here W.hx rfl rfl (hb W.by hd) rfl ((if0 _ _).trans (teq (o_eq (x := x) (y := 0) q)).1) ho hq z) (ky q)
  · exact OF.step (fun t z => XS.ifNo W.here W.hx rfl (hb W.by hd) rfl ((if0 _ _).trans (feq (o_ne (x := x) (y := 0) q)).1) z) (kn q)
theorem o_if_ne {x : Int32} {o : Int} (W : OW p l e R s m args below meth c Z B ml own nm rt n0 z0 T h kk nn) (hd : decode B pc = .ok (.ifCond .ne o, 3)) (ho : 0 ≤ (pc : Int) + o) (hq : ((pc : Int) + o).toNat = pq) (hp : pc + 3 = pc')
    (ky : ¬ x.toInt = 0 → OF p e below n1 z1 EN Q T (mkF m pq L S)) (kn : x.toInt = 0 → OF p e below n1 z1 EN Q T (mkF m pc' L S)) : OF p e below n1 z1 EN Q T (mkF m pc L (.int x :: S)) := by
  subst hp
  rcases (Decidable.em (x.toInt = 0)).symm with q | q
  · exact OF.step (fun t z => XS.ifYes W.here W.hx rfl rfl (hb W.by hd) rfl ((if0 _ _).trans (feq (o_ne (x := x) (y := 0) q)).2) ho hq z) (ky q)
  · exact OF.step (fun t z => XS.ifNo W.here W.hx rfl (hb W.by hd) rfl ((if0 _ _).trans (teq (o_eq (x := x) (y := 0) q)).2) z) (kn q)
theorem o_lcmp_lt {x y : Int64} {o : Int} {pc1 : Nat} (W : OW p l e R s m args below meth c Z B ml own nm rt n0 z0 T h kk nn) (hd : decode B pc = .ok (.lcmp, 1)) (h1 : pc + 1 = pc1) (hd2 : decode B pc1 = .ok (.ifCond .lt o, 3)) (ho : 0 ≤ (pc1 : Int) + o) (hq : ((pc1 : Int) + o).toNat = pq) (hp : pc1 + 3 = pc')
    (ky : x.toInt < y.toInt → OF p e below n1 z1 EN Q T (mkF m pq L S)) (kn : y.toInt ≤ x.toInt → OF p e below n1 z1 EN Q T (mkF m pc' L S)) : OF p e below n1 z1 EN Q T (mkF m pc L (.long y :: .long x :: S)) := by
  subst h1; subst hp
  refine OF.step (T' := T) (f' := mkF m (pc + 1) L (.int (lcmpW x y) :: S)) (fun t z => XS.lcmp W.here W.hx rfl (hb W.by hd) rfl z) ?_
  rcases Int.lt_or_le (x.toInt) (y.toInt) with q | q
  · exact OF.step (fun t z => XS.ifYes W.here W.hx rfl rfl (hb W.by hd2) rfl ((if0 _ _).trans (tlt ((lw_lt x y).mpr (o_llt q))).1) ho hq z) (ky q)
  · exact OF.step (fun t z => XS.ifNo W.here W.hx rfl (hb W.by hd2) rfl ((if0 _ _).trans (flt (fun z => o_nllt q ((lw_lt x y).mp z))).1) z) (kn q)
theorem o_lcmp_ge {x y : Int64} {o : Int} {pc1 : Nat} (W : OW p l e R s m args below meth c Z B ml own nm rt n0 z0 T h kk nn) (hd : decode B pc = .ok (.lcmp, 1)) (h1 : pc + 1 = pc1) (hd2 : decode B pc1 = .ok (.ifCond .ge o, 3)) (ho : 0 ≤ (pc1 : Int) + o) (hq : ((pc1 : Int) + o).toNat = pq) (hp : pc1 + 3 = pc')
    (ky : y.toInt ≤ x.toInt → OF p e below n1 z1 EN Q T (mkF m pq L S)) (kn : x.toInt < y.toInt → OF p e below n1 z1 EN Q T (mkF m pc' L S)) : OF p e below n1 z1 EN Q T (mkF m pc L (.long y :: .long x :: S)) := by
  subst h1; subst hp
  refine OF.step (T' := T) (f' := mkF m (pc + 1) L (.int (lcmpW x y) :: S)) (fun t z => XS.lcmp W.here W.hx rfl (hb W.by hd) rfl z) ?_
  rcases (Int.lt_or_le (x.toInt) (y.toInt)).symm with q | q
  · exact OF.step (fun t z => XS.ifYes W.here W.hx rfl rfl (hb W.by hd2) rfl ((if0 _ _).trans (flt (fun z => o_nllt q ((lw_lt x y).mp z))).2.1) ho hq z) (ky q)
  · exact OF.step (fun t z => XS.ifNo W.here W.hx rfl (hb W.by hd2) rfl ((if0 _ _).trans (tlt ((lw_lt x y).mpr (o_llt q))).2.1) z) (kn q)
theorem o_lcmp_gt {x y : Int64} {o : Int} {pc1 : Nat} (W : OW p l e R s m args below meth c Z B ml own nm rt n0 z0 T h kk nn) (hd : decode B pc = .ok (.lcmp, 1)) (h1 : pc + 1 = pc1) (hd2 : decode B pc1 = .ok (.ifCond .gt o, 3)) (ho : 0 ≤ (pc1 : Int) + o) (hq : ((pc1 : Int) + o).toNat = pq) (hp : pc1 + 3 = pc')
    (ky : y.toInt < x.toInt → OF p e below n1 z1 EN Q T (mkF m pq L S)) (kn : x.toInt ≤ y.toInt → OF p e below n1 z1 EN Q T (mkF m pc' L S)) : OF p e below n1 z1 EN Q T (mkF m pc L (.long y :: .long x :: S)) := by
  subst h1; subst hp
  refine OF.step (T' := T) (f' := mkF m (pc + 1) L (.int (lcmpW x y) :: S)) (fun t z => XS.lcmp W.here W.hx rfl (hb W.by hd) rfl z) ?_
  rcases Int.lt_or_le (y.toInt) (x.toInt) with q | q
  · exact OF.step (fun t z => XS.ifYes W.here W.hx rfl rfl (hb W.by hd2) rfl ((if0 _ _).trans (tlt ((lw_gt x y).mpr (o_llt q))).2.2.1) ho hq z) (ky q)
  · exact OF.step (fun t z => XS.ifNo W.here W.hx rfl (hb W.by hd2) rfl ((if0 _ _).trans (flt (fun z => o_nllt q ((lw_gt x y).mp z))).2.2.1) z) (kn q)
theorem o_lcmp_le {x y : Int64} {o : Int} {pc1 : Nat} (W : OW p l e R s m args below meth c Z B ml own nm rt n0 z0 T h kk nn) (hd : decode B pc = .ok (.lcmp, 1)) (h1 : pc + 1 = pc1) (hd2 : decode B pc1 = .ok (.ifCond .le o, 3)) (ho : 0 ≤ (pc1 : Int) + o) (hq : ((pc1 : Int) + o).toNat = pq) (hp : pc1 + 3 = pc')
    (ky : x.toInt ≤ y.toInt → OF p e below n1 z1 EN Q T (mkF m pq L S)) (kn : y.toInt < x.toInt → OF p e below n1 z1 EN Q T (mkF m pc' L S)) : OF p e below n1 z1 EN Q T (mkF m pc L (.long y :: .long x :: S)) := by
  subst h1; subst hp
  refine OF.step (T' := T) (f' := mkF m (pc + 1) L (.int (lcmpW x y) :: S)) (fun t z => XS.lcmp W.here W.hx rfl (hb W.by hd) rfl z) ?_
  rcases (Int.lt_or_le (y.toInt) (x.toInt)).symm with q | q
  · exact OF.step (fun t z => XS.ifYes W.here W.hx rfl rfl (hb W.by hd2) rfl ((if0 _ _).trans (flt (fun z => o_nllt q ((lw_gt x y).mp z))).2.2.2) ho hq z) (ky q)
  · exact OF.step (fun t z => XS.ifNo W.here W.hx rfl (hb W.by hd2) rfl ((if0 _ _).trans (tlt ((lw_gt x y).mpr (o_llt q))).2.2.2) z) (kn q)
theorem o_lcmp_eq {x y : Int64} {o : Int} {pc1 : Nat} (W : OW p l e R s m args below meth c Z B ml own nm rt n0 z0 T h kk nn) (hd : decode B pc = .ok (.lcmp, 1)) (h1 : pc + 1 = pc1) (hd2 : decode B pc1 = .ok (.ifCond .eq o, 3)) (ho : 0 ≤ (pc1 : Int) + o) (hq : ((pc1 : Int) + o).toNat = pq) (hp : pc1 + 3 = pc')
    (ky : x.toInt = y.toInt → OF p e below n1 z1 EN Q T (mkF m pq L S)) (kn : ¬ x.toInt = y.toInt → OF p e below n1 z1 EN Q T (mkF m pc' L S)) : OF p e below n1 z1 EN Q T (mkF m pc L (.long y :: .long x :: S)) := by
  subst h1; subst hp
  refine OF.step (T' := T) (f' := mkF m (pc + 1) L (.int (lcmpW x y) :: S)) (fun t z => XS.lcmp W.here W.hx rfl (hb W.by hd) rfl z) ?_
  rcases Decidable.em (x.toInt = y.toInt) with q | q
  · exact OF.step (fun t z => XS.ifYes W.here W.hx rfl rfl (hb W.by hd2) rfl ((if0 _ _).trans (teq ((lw_eq x y).mpr (o_leq q))).1) ho hq z) (ky q)
  · exact OF.step (fun t z => XS.ifNo W.here W.hx rfl (hb W.by hd2) rfl ((if0 _ _).trans (feq (fun z => o_lne q ((lw_eq x y).mp z))).1) z) (kn q)
theorem o_lcmp_ne {x y : Int64} {o : Int} {pc1 : Nat} (W : OW p l e R s m args below meth c Z B ml own nm rt n0 z0 T h kk nn) (hd : decode B pc = .ok (.lcmp, 1)) (h1 : pc + 1 = pc1) (hd2 : decode B pc1 = .ok (.ifCond .ne o, 3)) (ho : 0 ≤ (pc1 : Int) + o) (hq : ((pc1 : Int) + o).toNat = pq) (hp : pc1 + 3 = pc')
    (ky : ¬ x.toInt = y.toInt → OF p e below n1 z1 EN Q T (mkF m pq L S)) (kn : x.toInt = y.toInt → OF p e below n1 z1 EN Q T (mkF m pc' L S)) : OF p e below n1 z1 EN Q T (mkF m pc L (.long y :: .long x :: S)) := by
  subst h1; subst hp
  refine OF.step (T' := T) (f' := mkF m (pc + 1) L (.int (lcmpW x y) :: S)) (fun t z => XS.lcmp W.here W.hx rfl (hb W.by hd) rfl z) ?_
  rcases (Decidable.em (x.toInt = y.toInt)).symm with q | q
  · exact OF.step (fun t z => XS.ifYes W.here W.hx rfl rfl (hb W.by hd2) rfl ((if0 _ _).trans (feq (fun z => o_lne q ((lw_eq x y).mp z))).2) ho hq z) (ky q)
  · exact OF.step (fun t z => XS.ifNo W.here W.hx rfl (hb W.by hd2) rfl ((if0 _ _).trans (teq ((lw_eq x y).mpr (o_leq q))).2) z) (kn q)
abbrev QI (P : Int32 → Heap → Prop) : Option Value → Heap → Prop := fun v h => ∃ r, v = some (.int r) ∧ P r h
abbrev QJ (P : Int64 → Heap → Prop) : Option Value → Heap → Prop := fun v h => ∃ r, v = some (.long r) ∧ P r h
abbrev QA (P : Addr → Heap → Prop) : Option Value → Heap → Prop := fun v h => ∃ r, v = some (.ref r) ∧ P r h
abbrev QV (P : Heap → Prop) : Option Value → Heap → Prop := fun v h => v = none ∧ P h
theorem o_retN {t : FieldType} {z : Int32} (W : OW p l e R s m args below meth c Z B ml own nm rt n0 z0 T h kk nn) (hrt : rt = some t) (ht : t = .boolean ∨ t = .byte ∨ t = .char ∨ t = .short) (hd : decode B pc = .ok (.ireturn, 1)) (hk : kk ≤ kc) (hn : nn ≤ ns) (hQ : Q (some (.int (nar t z))) h) :
    OF p e below n0 z0 (ENn s kc ns) Q T (mkF m pc L (.int z :: S)) := by
  obtain ⟨⟨hx, hZ, hby, hml, hown, hnm, hr, hlk⟩, hz, hz', rfl, locs, X, N⟩ := W
  subst hrt
  obtain ⟨fs, hl, h1, h2, h3, h4⟩ := X.leave (v := some (.int (nar t z))) (fun q => by rw [hr] at q; cases q) hlk
  exact ⟨_, _, retN X hx hr ht (hb hby hd) hl, h1, h2, _, _, rfl, ⟨hQ, hz', N⟩, ⟨_, rfl⟩, h3, h4.mono hk hn⟩
theorem o_retI {z : Int32} (W : OW p l e R s m args below meth c Z B ml own nm rt n0 z0 T h kk nn) (hrt : rt = some .int) (hd : decode B pc = .ok (.ireturn, 1)) (hk : kk ≤ kc) (hn : nn ≤ ns) (hQ : Q (some (.int z)) h) :
    OF p e below n0 z0 (ENn s kc ns) Q T (mkF m pc L (.int z :: S)) := by
  obtain ⟨⟨hx, hZ, hby, hml, hown, hnm, hr, hlk⟩, hz, hz', rfl, locs, X, N⟩ := W
  subst hrt
  obtain ⟨fs, hl, h1, h2, h3, h4⟩ := X.leave (v := some (.int z)) (fun q => by rw [hr] at q; cases q) hlk
  exact ⟨_, _, retOut X hx hr rfl (Or.inl ⟨rfl, Or.inl rfl, _, rfl⟩) (hb hby hd) hl, h1, h2, _, _, rfl, ⟨hQ, hz', N⟩, ⟨_, rfl⟩, h3, h4.mono hk hn⟩
theorem o_retJ {z : Int64} (W : OW p l e R s m args below meth c Z B ml own nm rt n0 z0 T h kk nn) (hrt : rt = some .long) (hd : decode B pc = .ok (.lreturn, 1)) (hk : kk ≤ kc) (hn : nn ≤ ns) (hQ : Q (some (.long z)) h) :
    OF p e below n0 z0 (ENn s kc ns) Q T (mkF m pc L (.long z :: S)) := by
  obtain ⟨⟨hx, hZ, hby, hml, hown, hnm, hr, hlk⟩, hz, hz', rfl, locs, X, N⟩ := W
  subst hrt
  obtain ⟨fs, hl, h1, h2, h3, h4⟩ := X.leave (v := some (.long z)) (fun q => by rw [hr] at q; cases q) hlk
  exact ⟨_, _, retOut X hx hr rfl (Or.inr (Or.inl ⟨rfl, rfl, _, rfl⟩)) (hb hby hd) hl, h1, h2, _, _, rfl, ⟨hQ, hz', N⟩, ⟨_, rfl⟩, h3, h4.mono hk hn⟩
theorem o_retA {t : FieldType} {z : Value} (W : OW p l e R s m args below meth c Z B ml own nm rt n0 z0 T h kk nn) (hrt : rt = some t) (ht : t.isReference = true) (hv : z.isRef = true) (hnz : narrow t z = z) (hd : decode B pc = .ok (.areturn, 1)) (hk : kk ≤ kc) (hn : nn ≤ ns) (hQ : Q (some z) h) :
    OF p e below n0 z0 (ENn s kc ns) Q T (mkF m pc L (z :: S)) := by
  obtain ⟨⟨hx, hZ, hby, hml, hown, hnm, hr, hlk⟩, hz, hz', rfl, locs, X, N⟩ := W
  subst hrt
  obtain ⟨fs, hl, h1, h2, h3, h4⟩ := X.leave (v := some z) (fun q => by rw [hr] at q; cases q) hlk
  exact ⟨_, _, retOut X hx hr hnz (Or.inr (Or.inr (Or.inr (Or.inr ⟨rfl, ht, hv⟩)))) (hb hby hd) hl, h1, h2, _, _, rfl, ⟨hQ, hz', N⟩, ⟨_, rfl⟩, h3, h4.mono hk hn⟩
theorem o_retV (W : OW p l e R s m args below meth c Z B ml own nm rt n0 z0 T h kk nn) (hrt : rt = none) (hd : decode B pc = .ok (.return_, 1)) (hk : kk ≤ kc) (hn : nn ≤ ns) (hQ : Q none h) :
    OF p e below n0 z0 (ENn s kc ns) Q T (mkF m pc L []) := by
  obtain ⟨⟨hx, hZ, hby, hml, hown, hnm, hr, hlk⟩, hz, hz', rfl, locs, X, N⟩ := W
  subst hrt
  obtain ⟨fs, hl, h1, h2, h3, h4⟩ := X.leave (v := none) (fun _ => rfl) hlk
  exact ⟨_, _, X.returnOut hx hr (hb hby hd) hl, h1, h2, _, _, rfl, ⟨hQ, hz', N⟩, ⟨_, rfl⟩, h3, h4.mono hk hn⟩
/-- a body's contract: called with 'as' at the heap h0 it returns what Q says -/
def OCon (l : Launch) (Z : State) (y : MethodName) (B : ByteArray) (ml : Nat) (rt : Option FieldType) (ws : List Jvm.Cond) (rm : Room) (as : Array Value) (h0 : Heap) (n0 : Nat) (Q : Option Value → Heap → Prop) : Prop :=
  MetFree l y (head1 (Jvm.Cond.code y B ml rt :: ws) rm) (fun a U => a = as ∧ Z.Warmed39 U.vm ∧ U.heap = h0) (fun _ _ _ _ _ => True)
    (fun _ U o U' => ∃ v L, o = .returned v ∧ OQ Q h0.size n0 v U'.heap L ∧ FrameEnd U o U' L rm.cells rm.slots)
theorem OCon.mk {y : MethodName} {ws : List Jvm.Cond} {rm : Room} {as : Array Value} {h0 : Heap} (hpl : plainFor y = true) (hz : n0 ≤ h0.size)
    (body : ∀ (p : Program) (e : Env) (s : State) (m : MethodId) (below : List Frame) (meth : Method) (c : Code) (s₁ : State), OW p l e rm s m as below meth c Z B ml y.cls y.name rt n0 h0.size s₁ h0 0 0 → OF p e below n0 h0.size (ENn s rm.cells rm.slots) Q s₁ (entryFrame m as ml)) :
    OCon l Z y B ml rt ws rm as h0 n0 Q := by
  refine MetFree.of_bodySF hpl hisR ?_
  intro p e s m args below meth c s₁ Bd hml0 hP hK
  obtain ⟨rfl, hZ, hh⟩ := hP
  exact body p e s m below meth c s₁ ⟨⟨Bd.exec, hZ, Bd.bytes, hml0, findClass_of_methodNamed Bd.named, (name_of_methodNamed Bd.named Bd.method).1, Bd.returns, Bd.notSynchronized⟩, hz, Nat.le_refl _, by rw [← hh, Bd.state]; rfl, [], Stand.of_body Bd, Fr.nil _⟩
theorem o_callS {index : Nat} {y : MethodName} {B' : ByteArray} {ml' wt : Nat} {rt' : Option FieldType} {rm : Room} {as : Array Value} {Q' : Option Value → Heap → Prop} {argsL : List Value} {st : List Value} (W : OW p l e R s m args below meth c Z B ml own nm rt n0 z0 T h kk nn)
    (C : OCon l Z y B' ml' rt' [] rm as h n0 Q') (w1 : (Jvm.Cond.methodLink own index y).before a0 Z = true) (w2 : (Jvm.Cond.static y).before a0 Z = true) (w3 : (Jvm.Cond.initialized y.cls).before a0 Z = true) (w4 : (Jvm.Cond.code y B' ml' rt').before a0 Z = true)
    (hy : y.cls ≠ "java/lang/invoke/MethodHandle" ∧ y.cls ≠ "java/lang/invoke/VarHandle") (hlen : ∀ sig, parseMethodDescriptor y.desc = some sig → argsL.length = sig.parameters.length) (has : argsL.toArray = as) (hst : st = argsL.reverse ++ S) (hL : L.size = ml)
    (hwt : (S.map fun v => v.category).sum = wt) (hfr : rm.frames + 1 ≤ R.frames) (hlo : wt + (ml' + 11) + rm.locals ≤ R.locals) (hcl : kk + rm.cells ≤ R.cells) (hsl : nn + rm.slots ≤ R.slots) (hk' : kk + rm.cells = kk') (hn' : nn + rm.slots = nn')
    (hd : decode B pc = .ok (.invokestatic index, 3)) (hp : pc + 3 = pc')
    (k1 : ∀ v T' h', OW p l e R s m args below meth c Z B ml own nm rt n0 z0 T' h' kk' nn' → Q' v h' → h.size ≤ h'.size → OF p e below n1 z1 EN Q T' (mkF m pc' L (v.toList ++ S))) : OF p e below n1 z1 EN Q T (mkF m pc L st) := by
  subst hp has hk' hn' hst
  obtain ⟨cx, hz, hz', eT, locs, X, N⟩ := W
  obtain ⟨hx, hZ, hby, hml, hown, hnm, hr, hlk⟩ := cx
  obtain ⟨v, _, ⟨T', L2, k2, n2⟩, -, X2, ⟨Lc, hQ, l2, y2, z2⟩, st2⟩ := Jvm.LawKit.callS X hx (y := y) hown (mvT hZ w1) (mvT hZ w2) (mvT hZ w3) (mvT hZ w4) hy (backOf (W := wt) (Q := OQ Q' h.size n0) C hZ w4 w3 hfr hlo) (g := mkF m pc L (argsL.reverse ++ S)) rfl (hL.trans hml.symm) (argsL := argsL) (rest := S) hlen rfl
    (by show 2 * 0 + _ ≤ _; rw [hwt]; omega) (hb hby hd) (fun _ _ => ⟨rfl, eT, hcl, hsl⟩)
  dsimp only [Pt.U, Pt.locs, Pt.cells, Pt.slots] at X2 l2 y2 z2 st2 hQ
  subst l2 y2 z2
  obtain ⟨q1, q2, q3⟩ := hQ
  exact OF.step (fun t z => st2 t z) (k1 v T' T'.heap ⟨⟨hx, hZ, hby, hml, hown, hnm, hr, hlk⟩, hz, Nat.le_trans hz' q2, rfl, _, X2, Fr.app N q3⟩ q1 q2)
theorem o_callSI {index : Nat} {y : MethodName} {B' : ByteArray} {ml' wt : Nat} {rt' : Option FieldType} {rm : Room} {as : Array Value} {P' : Int32 → Heap → Prop} {argsL : List Value} {st : List Value} (W : OW p l e R s m args below meth c Z B ml own nm rt n0 z0 T h kk nn)
    (C : OCon l Z y B' ml' rt' [] rm as h n0 (QI P')) (w1 : (Jvm.Cond.methodLink own index y).before a0 Z = true) (w2 : (Jvm.Cond.static y).before a0 Z = true) (w3 : (Jvm.Cond.initialized y.cls).before a0 Z = true) (w4 : (Jvm.Cond.code y B' ml' rt').before a0 Z = true)
    (hy : y.cls ≠ "java/lang/invoke/MethodHandle" ∧ y.cls ≠ "java/lang/invoke/VarHandle") (hlen : ∀ sig, parseMethodDescriptor y.desc = some sig → argsL.length = sig.parameters.length) (has : argsL.toArray = as) (hst : st = argsL.reverse ++ S) (hL : L.size = ml)
    (hwt : (S.map fun v => v.category).sum = wt) (hfr : rm.frames + 1 ≤ R.frames) (hlo : wt + (ml' + 11) + rm.locals ≤ R.locals) (hcl : kk + rm.cells ≤ R.cells) (hsl : nn + rm.slots ≤ R.slots) (hk' : kk + rm.cells = kk') (hn' : nn + rm.slots = nn')
    (hd : decode B pc = .ok (.invokestatic index, 3)) (hp : pc + 3 = pc')
    (k1 : ∀ r T' h', OW p l e R s m args below meth c Z B ml own nm rt n0 z0 T' h' kk' nn' → P' r h' → h.size ≤ h'.size → OF p e below n1 z1 EN Q T' (mkF m pc' L (.int r :: S))) : OF p e below n1 z1 EN Q T (mkF m pc L st) :=
  o_callS W C w1 w2 w3 w4 hy hlen has hst hL hwt hfr hlo hcl hsl hk' hn' hd hp (fun v T' h' W' q z => by
    obtain ⟨r, rfl, q⟩ := q
    exact k1 r T' h' W' q z)
theorem o_callSJ {index : Nat} {y : MethodName} {B' : ByteArray} {ml' wt : Nat} {rt' : Option FieldType} {rm : Room} {as : Array Value} {P' : Int64 → Heap → Prop} {argsL : List Value} {st : List Value} (W : OW p l e R s m args below meth c Z B ml own nm rt n0 z0 T h kk nn)
    (C : OCon l Z y B' ml' rt' [] rm as h n0 (QJ P')) (w1 : (Jvm.Cond.methodLink own index y).before a0 Z = true) (w2 : (Jvm.Cond.static y).before a0 Z = true) (w3 : (Jvm.Cond.initialized y.cls).before a0 Z = true) (w4 : (Jvm.Cond.code y B' ml' rt').before a0 Z = true)
    (hy : y.cls ≠ "java/lang/invoke/MethodHandle" ∧ y.cls ≠ "java/lang/invoke/VarHandle") (hlen : ∀ sig, parseMethodDescriptor y.desc = some sig → argsL.length = sig.parameters.length) (has : argsL.toArray = as) (hst : st = argsL.reverse ++ S) (hL : L.size = ml)
    (hwt : (S.map fun v => v.category).sum = wt) (hfr : rm.frames + 1 ≤ R.frames) (hlo : wt + (ml' + 11) + rm.locals ≤ R.locals) (hcl : kk + rm.cells ≤ R.cells) (hsl : nn + rm.slots ≤ R.slots) (hk' : kk + rm.cells = kk') (hn' : nn + rm.slots = nn')
    (hd : decode B pc = .ok (.invokestatic index, 3)) (hp : pc + 3 = pc')
    (k1 : ∀ r T' h', OW p l e R s m args below meth c Z B ml own nm rt n0 z0 T' h' kk' nn' → P' r h' → h.size ≤ h'.size → OF p e below n1 z1 EN Q T' (mkF m pc' L (.long r :: S))) : OF p e below n1 z1 EN Q T (mkF m pc L st) :=
  o_callS W C w1 w2 w3 w4 hy hlen has hst hL hwt hfr hlo hcl hsl hk' hn' hd hp (fun v T' h' W' q z => by
    obtain ⟨r, rfl, q⟩ := q
    exact k1 r T' h' W' q z)
theorem o_callSA {index : Nat} {y : MethodName} {B' : ByteArray} {ml' wt : Nat} {rt' : Option FieldType} {rm : Room} {as : Array Value} {P' : Addr → Heap → Prop} {argsL : List Value} {st : List Value} (W : OW p l e R s m args below meth c Z B ml own nm rt n0 z0 T h kk nn)
    (C : OCon l Z y B' ml' rt' [] rm as h n0 (QA P')) (w1 : (Jvm.Cond.methodLink own index y).before a0 Z = true) (w2 : (Jvm.Cond.static y).before a0 Z = true) (w3 : (Jvm.Cond.initialized y.cls).before a0 Z = true) (w4 : (Jvm.Cond.code y B' ml' rt').before a0 Z = true)
    (hy : y.cls ≠ "java/lang/invoke/MethodHandle" ∧ y.cls ≠ "java/lang/invoke/VarHandle") (hlen : ∀ sig, parseMethodDescriptor y.desc = some sig → argsL.length = sig.parameters.length) (has : argsL.toArray = as) (hst : st = argsL.reverse ++ S) (hL : L.size = ml)
    (hwt : (S.map fun v => v.category).sum = wt) (hfr : rm.frames + 1 ≤ R.frames) (hlo : wt + (ml' + 11) + rm.locals ≤ R.locals) (hcl : kk + rm.cells ≤ R.cells) (hsl : nn + rm.slots ≤ R.slots) (hk' : kk + rm.cells = kk') (hn' : nn + rm.slots = nn')
    (hd : decode B pc = .ok (.invokestatic index, 3)) (hp : pc + 3 = pc')
    (k1 : ∀ r T' h', OW p l e R s m args below meth c Z B ml own nm rt n0 z0 T' h' kk' nn' → P' r h' → h.size ≤ h'.size → OF p e below n1 z1 EN Q T' (mkF m pc' L (.ref r :: S))) : OF p e below n1 z1 EN Q T (mkF m pc L st) :=
  o_callS W C w1 w2 w3 w4 hy hlen has hst hL hwt hfr hlo hcl hsl hk' hn' hd hp (fun v T' h' W' q z => by
    obtain ⟨r, rfl, q⟩ := q
    exact k1 r T' h' W' q z)
/-- an array of ints, bytes or chars at a, with these components -/
def OA (Z : State) (h : Heap) (a : Addr) (ty : FieldType) (xs : List Int32) : Prop := xs.length < 2 ^ 31 ∧ (∀ x ∈ xs, fits ty (.int x) = true) ∧ ∃ cl : Cell, Arr Z h a cl ty ∧ cl.slots = (xs.map Value.int).toArray
theorem OA.lt {a : Addr} {ty : FieldType} {xs : List Int32} (A : OA Z h a ty xs) : a < h.size := by obtain ⟨_, _, _, A, _⟩ := A; exact A.lt
theorem OA.ext {a : Addr} {ty : FieldType} {xs : List Int32} (A : OA Z h a ty xs) (E : Ext h h') : OA Z h' a ty xs := by obtain ⟨q1, q2, cl, A, q3⟩ := A; exact ⟨q1, q2, cl, A.ext E, q3⟩
theorem OA.keep {a : Addr} {ty : FieldType} {xs : List Int32} {ws : List Addr} (A : OA Z h a ty xs) (K : Keep h h' ws) (q : a ∉ ws) : OA Z h' a ty xs := by obtain ⟨q1, q2, cl, A, q3⟩ := A; exact ⟨q1, q2, cl, ⟨K.2.1 a cl A.1 q, A.2⟩, q3⟩
theorem OA.keep1 {a b : Addr} {ty : FieldType} {xs : List Int32} (A : OA Z h a ty xs) (K : Keep h h' [b]) (q : a ≠ b) : OA Z h' a ty xs := A.keep K (by simpa using q)
theorem OA.len {a : Addr} {ty : FieldType} {xs : List Int32} (A : OA Z h a ty xs) : xs.length < 2 ^ 31 := A.1
theorem o_tn (x : Int32) : x.toNatClampNeg = x.toInt.toNat := rfl
theorem o_nat {j : Int32} {i : Nat} (q : j.toInt = i) : j.toNatClampNeg = i := by rw [o_tn, q]; exact Int.toNat_natCast i
theorem o_in {j : Int32} {i : Nat} {xs : List Int32} {cl : Cell} (hi : j.toInt = i) (hs : cl.slots = (xs.map Value.int).toArray) (q : i < xs.length) : ¬ (j < 0 ∨ cl.slots.size ≤ j.toNatClampNeg) := by
  rw [o_nat hi, hs]; simp only [List.size_toArray, List.length_map, Int32.lt_iff_toInt_lt, hi, o_zero]; omega
theorem o_newarray {aty : ArrayType} {ty : FieldType} {v : Int32} {len cap : Nat} (W : OW p l e R s m args below meth c Z B ml own nm rt n0 z0 T h kk nn) (w : (Jvm.Cond.arrayClass ty).before a0 Z = true) (hty : newarray.typeOf aty = ty) (hdv : defaultValue ty = .int 0) (hft : fits ty (.int 0) = true) (hd : decode B pc = .ok (.newarray aty, 2)) (hp : pc + 2 = pc')
    (hv : v.toInt = len) (hlc : len ≤ cap) (hcap : cap * 8 ≤ 536870912) (hc : kk + 1 ≤ R.cells) (hl : nn + cap ≤ R.slots) (hk' : kk + 1 = kk') (hn' : nn + cap = nn')
    (k1 : ∀ T' h' a, OW p l e R s m args below meth c Z B ml own nm rt n0 z0 T' h' kk' nn' → Ext h h' → a = h.size → OA Z h' a ty (List.replicate len 0) → OF p e below n1 z1 EN Q T' (mkF m pc' L (.ref a :: S))) : OF p e below n1 z1 EN Q T (mkF m pc L (.int v :: S)) := by
  subst hp hk' hn' hty
  obtain ⟨cx, hz, hz', eT, locs, X, N⟩ := W
  obtain ⟨hx, hZ, hby, hml, hown, hnm, hr, hlk⟩ := cx
  obtain ⟨T', h', cA, X', e', E, A, st⟩ := newP X hx hZ w eT (g := mkF m pc L (.int v :: S)) rfl (hb hby hd) rfl (o_nlt (by rw [hv, o_zero]; omega)) (cap := cap) (by rw [o_nat hv]; exact hlc) hcap hc hl
  refine OF.step (fun t z => st t z) (k1 T' h' h.size ⟨⟨hx, hZ, hby, hml, hown, hnm, hr, hlk⟩, hz, Nat.le_trans hz' E.1, e', _, X', N⟩ E rfl ⟨by rw [List.length_replicate]; omega, fun x hx => by rw [List.mem_replicate] at hx; rw [hx.2]; exact hft, _, A, ?_⟩)
  simp [newA, hdv, o_nat hv]
theorem o_iaload {a : Addr} {xs : List Int32} {j v : Int32} {i : Nat} (W : OW p l e R s m args below meth c Z B ml own nm rt n0 z0 T h kk nn) (A : OA Z h a .int xs) (hd : decode B pc = .ok (.iaload, 1)) (hp : pc + 1 = pc') (hi : j.toInt = i) (hv : xs[i]? = some v)
    (k1 : OF p e below n1 z1 EN Q T (mkF m pc' L (.int v :: S))) : OF p e below n1 z1 EN Q T (mkF m pc L (.int j :: .ref a :: S)) := by
  subst hp
  obtain ⟨cx, hz, hz', eT, locs, X, N⟩ := W
  obtain ⟨hx, hZ, hby, hml, hown, hnm, hr, hlk⟩ := cx
  obtain ⟨q1, q2, cl, A, q3⟩ := A
  have hlt : i < xs.length := (List.getElem?_eq_some_iff.mp hv).1
  exact OF.step (fun t z => X.iaload hx (j := j) (v := .int v) (by rw [eT]; exact A.1) (State.isArrayOf_alike hZ.alike A.2.1) A.2.2 (o_in hi q3 hlt) (by rw [o_nat hi, q3]; simp [hv]) (g := mkF m pc L (.int j :: .ref a :: S)) rfl rfl (hb hby hd) t z) k1
theorem o_baload {a : Addr} {xs : List Int32} {j v : Int32} {i : Nat} (W : OW p l e R s m args below meth c Z B ml own nm rt n0 z0 T h kk nn) (A : OA Z h a .byte xs) (hd : decode B pc = .ok (.baload, 1)) (hp : pc + 1 = pc') (hi : j.toInt = i) (hv : xs[i]? = some v)
    (k1 : OF p e below n1 z1 EN Q T (mkF m pc' L (.int v :: S))) : OF p e below n1 z1 EN Q T (mkF m pc L (.int j :: .ref a :: S)) := by
  subst hp
  obtain ⟨cx, hz, hz', eT, locs, X, N⟩ := W
  obtain ⟨hx, hZ, hby, hml, hown, hnm, hr, hlk⟩ := cx
  obtain ⟨q1, q2, cl, A, q3⟩ := A
  have hlt : i < xs.length := (List.getElem?_eq_some_iff.mp hv).1
  exact OF.step (fun t z => X.baloadBytes hx (j := j) (v := .int v) (by rw [eT]; exact A.1) (State.isArrayOf_alike hZ.alike A.2.1) A.2.2 (o_in hi q3 hlt) (by rw [o_nat hi, q3]; simp [hv]) (g := mkF m pc L (.int j :: .ref a :: S)) rfl rfl (hb hby hd) t z) k1
theorem o_caload {a : Addr} {xs : List Int32} {j v : Int32} {i : Nat} (W : OW p l e R s m args below meth c Z B ml own nm rt n0 z0 T h kk nn) (A : OA Z h a .char xs) (hd : decode B pc = .ok (.caload, 1)) (hp : pc + 1 = pc') (hi : j.toInt = i) (hv : xs[i]? = some v)
    (k1 : OF p e below n1 z1 EN Q T (mkF m pc' L (.int v :: S))) : OF p e below n1 z1 EN Q T (mkF m pc L (.int j :: .ref a :: S)) := by
  subst hp
  obtain ⟨cx, hz, hz', eT, locs, X, N⟩ := W
  obtain ⟨hx, hZ, hby, hml, hown, hnm, hr, hlk⟩ := cx
  obtain ⟨q1, q2, cl, A, q3⟩ := A
  have hlt : i < xs.length := (List.getElem?_eq_some_iff.mp hv).1
  exact OF.step (fun t z => X.caload hx (j := j) (v := .int v) (by rw [eT]; exact A.1) (State.isArrayOf_alike hZ.alike A.2.1) A.2.2 (o_in hi q3 hlt) (by rw [o_nat hi, q3]; simp [hv]) (g := mkF m pc L (.int j :: .ref a :: S)) rfl rfl (hb hby hd) t z) k1
theorem o_iastore {a : Addr} {xs : List Int32} {j x : Int32} {i : Nat} (W : OW p l e R s m args below meth c Z B ml own nm rt n0 z0 T h kk nn) (A : OA Z h a .int xs) (ha : n0 ≤ a) (hd : decode B pc = .ok (.iastore, 1)) (hp : pc + 1 = pc') (hi : j.toInt = i) (hlt : i < xs.length)
    (k1 : ∀ T' h', OW p l e R s m args below meth c Z B ml own nm rt n0 z0 T' h' kk nn → Keep h h' [a] → OA Z h' a .int (xs.set i (x)) → OF p e below n1 z1 EN Q T' (mkF m pc' L S)) : OF p e below n1 z1 EN Q T (mkF m pc L (.int x :: .int j :: .ref a :: S)) := by
  subst hp
  obtain ⟨cx, hz, hz', eT, locs, X, N⟩ := W
  obtain ⟨hx, hZ, hby, hml, hown, hnm, hr, hlk⟩ := cx
  obtain ⟨q1, q2, cl, A, q3⟩ := A
  obtain ⟨T', h', X', e', Wr', st⟩ := stI X hx hZ eT A (j := j) (x := x) (o_in hi q3 hlt) (g := mkF m pc L (.int x :: .int j :: .ref a :: S)) rfl rfl (hb hby hd)
  have Wr' : Wr h h' a j.toNatClampNeg (.int (x)) := Wr'
  refine OF.step (fun t z => st t z) (k1 T' h' ⟨⟨hx, hZ, hby, hml, hown, hnm, hr, hlk⟩, hz, Nat.le_trans hz' (Nat.le_of_eq Wr'.size.symm), e', _, X', Fr.snoc X' N ha⟩ (Keep.of_wr Wr') ⟨by rw [List.length_set]; exact q1, fun y hy => ?_, _, A.same Wr', ?_⟩)
  · rcases List.mem_or_eq_of_mem_set hy with hy | rfl
    · exact q2 y hy
    · exact rfl
  · rw [o_nat hi]; simp [Cell.setSlot, q3, List.map_set]; try rfl
theorem o_bastore {a : Addr} {xs : List Int32} {j x : Int32} {i : Nat} (W : OW p l e R s m args below meth c Z B ml own nm rt n0 z0 T h kk nn) (A : OA Z h a .byte xs) (ha : n0 ≤ a) (hd : decode B pc = .ok (.bastore, 1)) (hp : pc + 1 = pc') (hi : j.toInt = i) (hlt : i < xs.length)
    (k1 : ∀ T' h', OW p l e R s m args below meth c Z B ml own nm rt n0 z0 T' h' kk nn → Keep h h' [a] → OA Z h' a .byte (xs.set i (x.toInt8.toInt32)) → OF p e below n1 z1 EN Q T' (mkF m pc' L S)) : OF p e below n1 z1 EN Q T (mkF m pc L (.int x :: .int j :: .ref a :: S)) := by
  subst hp
  obtain ⟨cx, hz, hz', eT, locs, X, N⟩ := W
  obtain ⟨hx, hZ, hby, hml, hown, hnm, hr, hlk⟩ := cx
  obtain ⟨q1, q2, cl, A, q3⟩ := A
  obtain ⟨T', h', X', e', Wr', st⟩ := stB X hx hZ eT A (j := j) (x := x) (o_in hi q3 hlt) (g := mkF m pc L (.int x :: .int j :: .ref a :: S)) rfl rfl (hb hby hd)
  have Wr' : Wr h h' a j.toNatClampNeg (.int (x.toInt8.toInt32)) := Wr'
  refine OF.step (fun t z => st t z) (k1 T' h' ⟨⟨hx, hZ, hby, hml, hown, hnm, hr, hlk⟩, hz, Nat.le_trans hz' (Nat.le_of_eq Wr'.size.symm), e', _, X', Fr.snoc X' N ha⟩ (Keep.of_wr Wr') ⟨by rw [List.length_set]; exact q1, fun y hy => ?_, _, A.same Wr', ?_⟩)
  · rcases List.mem_or_eq_of_mem_set hy with hy | rfl
    · exact q2 y hy
    · exact fits_nar_byte x
  · rw [o_nat hi]; simp [Cell.setSlot, q3, List.map_set]; try rfl
theorem o_castore {a : Addr} {xs : List Int32} {j x : Int32} {i : Nat} (W : OW p l e R s m args below meth c Z B ml own nm rt n0 z0 T h kk nn) (A : OA Z h a .char xs) (ha : n0 ≤ a) (hd : decode B pc = .ok (.castore, 1)) (hp : pc + 1 = pc') (hi : j.toInt = i) (hlt : i < xs.length)
    (k1 : ∀ T' h', OW p l e R s m args below meth c Z B ml own nm rt n0 z0 T' h' kk nn → Keep h h' [a] → OA Z h' a .char (xs.set i (x.toUInt32.toUInt16.toUInt32.toInt32)) → OF p e below n1 z1 EN Q T' (mkF m pc' L S)) : OF p e below n1 z1 EN Q T (mkF m pc L (.int x :: .int j :: .ref a :: S)) := by
  subst hp
  obtain ⟨cx, hz, hz', eT, locs, X, N⟩ := W
  obtain ⟨hx, hZ, hby, hml, hown, hnm, hr, hlk⟩ := cx
  obtain ⟨q1, q2, cl, A, q3⟩ := A
  obtain ⟨T', h', X', e', Wr', st⟩ := stC X hx hZ eT A (j := j) (x := x) (o_in hi q3 hlt) (g := mkF m pc L (.int x :: .int j :: .ref a :: S)) rfl rfl (hb hby hd)
  have Wr' : Wr h h' a j.toNatClampNeg (.int (x.toUInt32.toUInt16.toUInt32.toInt32)) := Wr'
  refine OF.step (fun t z => st t z) (k1 T' h' ⟨⟨hx, hZ, hby, hml, hown, hnm, hr, hlk⟩, hz, Nat.le_trans hz' (Nat.le_of_eq Wr'.size.symm), e', _, X', Fr.snoc X' N ha⟩ (Keep.of_wr Wr') ⟨by rw [List.length_set]; exact q1, fun y hy => ?_, _, A.same Wr', ?_⟩)
  · rcases List.mem_or_eq_of_mem_set hy with hy | rfl
    · exact q2 y hy
    · exact fits_nar_char x
  · rw [o_nat hi]; simp [Cell.setSlot, q3, List.map_set]; try rfl
theorem o_arraylength {a : Addr} {ty : FieldType} {xs : List Int32} (W : OW p l e R s m args below meth c Z B ml own nm rt n0 z0 T h kk nn) (A : OA Z h a ty xs) (hd : decode B pc = .ok (.arraylength, 1)) (hp : pc + 1 = pc')
    (k1 : ∀ v : Int32, v.toInt = xs.length → OF p e below n1 z1 EN Q T (mkF m pc' L (.int v :: S))) : OF p e below n1 z1 EN Q T (mkF m pc L (.ref a :: S)) := by
  subst hp
  obtain ⟨cx, hz, hz', eT, locs, X, N⟩ := W
  obtain ⟨hx, hZ, hby, hml, hown, hnm, hr, hlk⟩ := cx
  obtain ⟨q1, q2, cl, A, q3⟩ := A
  have hs : cl.slots.size = xs.length := by rw [q3]; simp
  exact OF.step (fun t z => X.arraylength hx (by rw [eT]; exact A.1) (State.isArrayOf_alike hZ.alike A.2.1) (g := mkF m pc L (.ref a :: S)) rfl rfl (hb hby hd) t z) (k1 cl.slots.size.toInt32 (by rw [hs]; exact len_toInt q1))
theorem OF.join {α : Type} (Jn : α → Prop) (Tf : α → State) (fr : α → JFrame) {f : JFrame} (k1 : ∀ v, Jn v → OF p e below n1 z1 EN Q (Tf v) (fr v)) (k2 : (∀ v, Jn v → OF p e below n1 z1 EN Q (Tf v) (fr v)) → OF p e below n1 z1 EN Q T f) : OF p e below n1 z1 EN Q T f := k2 k1
theorem OF.loop {α : Type} (mu : α → Nat) (Jn : α → Prop) (Tf : α → State) (fr : α → JFrame) (k1 : ∀ v, Jn v → (∀ v', Jn v' → mu v' < mu v → OF p e below n1 z1 EN Q (Tf v') (fr v')) → OF p e below n1 z1 EN Q (Tf v) (fr v)) (v0 : α) (hv0 : Jn v0) : OF p e below n1 z1 EN Q (Tf v0) (fr v0) := by
  have key : ∀ n v, mu v < n → Jn v → OF p e below n1 z1 EN Q (Tf v) (fr v) := by
    intro n
    induction n with
    | zero => intro v hn; omega
    | succ n ih => intro v hn hv; exact k1 v hv (fun v' hv' hlt => ih v' (by omega) hv')
  exact key _ v0 (Nat.lt_succ_self _) hv0
theorem o_new {index n : Nat} {C : String} (W : OW p l e R s m args below meth c Z B ml own nm rt n0 z0 T h kk nn) (w : (Jvm.Cond.classLink own index C).before a0 Z = true) (wi : (Jvm.Cond.instantiable C n).before a0 Z = true) (wz : (Jvm.Cond.initialized C).before a0 Z = true) (hd : decode B pc = .ok (.new index, 3)) (hp : pc + 3 = pc')
    (hc : kk + 1 ≤ R.cells) (hl : nn + n ≤ R.slots) (hk' : kk + 1 = kk') (hn' : nn + n = nn')
    (k1 : ∀ T' h' a, OW p l e R s m args below meth c Z B ml own nm rt n0 z0 T' h' kk' nn' → Ext h h' → a = h.size → Exa Z h' a C → (∀ {O nm d : String} {ty : FieldType}, Laid Z a0 C O nm d → parseFieldDescriptor d = some ty → Fld Z h' a O nm d (defaultValue ty)) → OF p e below n1 z1 EN Q T' (mkF m pc' L (.ref a :: S))) : OF p e below n1 z1 EN Q T (mkF m pc L S) := by
  subst hp hk' hn'
  obtain ⟨cx, hz, hz', eT, locs, X, N⟩ := W
  obtain ⟨hx, hZ, hby, hml, hown, hnm, hr, hlk⟩ := cx
  obtain ⟨T', h', X', e', E, A, D, -, st⟩ := newO X hx hZ hown w wi wz eT (g := mkF m pc L S) rfl (hb hby hd) hc hl
  exact OF.step (fun t z => st t z) (k1 T' h' h.size ⟨⟨hx, hZ, hby, hml, hown, hnm, hr, hlk⟩, hz, Nat.le_trans hz' E.1, e', _, X', N⟩ E rfl A D)
theorem o_getF {index : Nat} {O f d : String} {a : Addr} {v : Value} (W : OW p l e R s m args below meth c Z B ml own nm rt n0 z0 T h kk nn) (w : (Jvm.Cond.fieldLink own index O f d).before a0 Z = true) (Fl : Fld Z h a O f d v) (hd : decode B pc = .ok (.getfield index, 3)) (hp : pc + 3 = pc')
    (k1 : ∀ T', OW p l e R s m args below meth c Z B ml own nm rt n0 z0 T' h kk nn → OF p e below n1 z1 EN Q T' (mkF m pc' L (v :: S))) : OF p e below n1 z1 EN Q T (mkF m pc L (.ref a :: S)) := by
  subst hp
  obtain ⟨cx, hz, hz', eT, locs, X, N⟩ := W
  obtain ⟨hx, hZ, hby, hml, hown, hnm, hr, hlk⟩ := cx
  obtain ⟨T', X', e', st⟩ := getF X hx hZ hown (host := "") (Or.inl w) Via.refl eT Fl (g := mkF m pc L (.ref a :: S)) rfl rfl (hb hby hd)
  exact OF.step (fun t z => st t z) (k1 T' ⟨⟨hx, hZ, hby, hml, hown, hnm, hr, hlk⟩, hz, hz', e', _, X', N⟩)
theorem o_putF {index kz : Nat} {O f d C : String} {a : Addr} {v v' old : Value} {ty : FieldType} (W : OW p l e R s m args below meth c Z B ml own nm rt n0 z0 T h kk nn) (w : (Jvm.Cond.fieldLink own index O f d).before a0 Z = true) (Fl : Fld Z h a O f d old) (E : Exa Z h a C) (Ly : (Jvm.Cond.lays C O f d).before a0 Z = true ∨ ((Jvm.Cond.laysFinal C O f d).before a0 Z = true ∧ own = O ∧ nm = "<init>")) (wi : (Jvm.Cond.instantiable C kz).before a0 Z = true)
    (hty : parseFieldDescriptor d = some ty) (hnw : narrow ty v = v') (hf : fits ty v' = true) (ha : n0 ≤ a) (hd : decode B pc = .ok (.putfield index, 3)) (hp : pc + 3 = pc')
    (k1 : ∀ T' h', OW p l e R s m args below meth c Z B ml own nm rt n0 z0 T' h' kk nn → Wr h h' a (Jvm.RoadKit.slotOf Z O f d) v' → OF p e below n1 z1 EN Q T' (mkF m pc' L S)) : OF p e below n1 z1 EN Q T (mkF m pc L (v :: .ref a :: S)) := by
  subst hp
  obtain ⟨cx, hz, hz', eT, locs, X, N⟩ := W
  obtain ⟨hx, hZ, hby, hml, hown, hnm, hr, hlk⟩ := cx
  obtain ⟨T', h', X', e', Wr', st⟩ := putFN X hx hZ hown w Via.refl eT Fl E (Ly.imp id (fun q => ⟨q.1, q.2.1, hnm.trans q.2.2⟩)) wi hty hnw hf (g := mkF m pc L (v :: .ref a :: S)) rfl rfl (hb hby hd)
  exact OF.step (fun t z => st t z) (k1 T' h' ⟨⟨hx, hZ, hby, hml, hown, hnm, hr, hlk⟩, hz, Nat.le_trans hz' (Nat.le_of_eq Wr'.size.symm), e', _, X', Fr.snoc X' N ha⟩ Wr')
theorem o_initO {index wt : Nat} {a : Addr} (W : OW p l e R s m args below meth c Z B ml own nm rt n0 z0 T h kk nn) (w1 : (Jvm.Cond.methodLink own index Lib.objectInit).before a0 Z = true) (w2 : (Jvm.Cond.instanceMethod Lib.objectInit).before a0 Z = true) (w3 : (Jvm.Cond.code Lib.objectInit ⟨#[0xb1]⟩ 1 none).before a0 Z = true)
    (hL : L.size = ml) (hwt : (S.map fun v => v.category).sum = wt) (hfr : 1 ≤ R.frames) (hlo : wt + 12 ≤ R.locals) (hd : decode B pc = .ok (.invokespecial index, 3)) (hp : pc + 3 = pc')
    (k1 : ∀ T', OW p l e R s m args below meth c Z B ml own nm rt n0 z0 T' h kk nn → OF p e below n1 z1 EN Q T' (mkF m pc' L S)) : OF p e below n1 z1 EN Q T (mkF m pc L (.ref a :: S)) := by
  subst hp
  obtain ⟨cx, hz, hz', eT, locs, X, N⟩ := W
  obtain ⟨hx, hZ, hby, hml, hown, hnm, hr, hlk⟩ := cx
  obtain ⟨T', X', e', st⟩ := initO X hx hZ hown w1 w2 w3 eT (g := mkF m pc L (.ref a :: S)) rfl (hL.trans hml.symm) rfl (hb hby hd) hfr (W := wt) (by show 2 * 0 + _ ≤ _; rw [hwt]; omega) hlo
  exact OF.step (fun t z => st t z) (k1 T' ⟨⟨hx, hZ, hby, hml, hown, hnm, hr, hlk⟩, hz, hz', e', _, X', N⟩)
theorem o_callC {index : Nat} {y : MethodName} {B' : ByteArray} {ml' wt : Nat} {rm : Room} {as : Array Value} {P' : Heap → Prop} {a : Addr} {argsL : List Value} {st : List Value} (W : OW p l e R s m args below meth c Z B ml own nm rt n0 z0 T h kk nn)
    (C : OCon l Z y B' ml' none [] rm as h n0 (QV P')) (hy1 : y.name = "<init>") (w1 : (Jvm.Cond.methodLink own index y).before a0 Z = true) (w2 : (Jvm.Cond.instanceMethod y).before a0 Z = true) (w3 : (Jvm.Cond.initialized y.cls).before a0 Z = true) (w4 : (Jvm.Cond.code y B' ml' none).before a0 Z = true)
    (hy : y.cls ≠ "java/lang/invoke/MethodHandle" ∧ y.cls ≠ "java/lang/invoke/VarHandle") (hlen : ∀ sig, parseMethodDescriptor y.desc = some sig → argsL.length = sig.parameters.length) (has : (.ref a :: argsL).toArray = as) (hst : st = argsL.reverse ++ .ref a :: S) (hL : L.size = ml)
    (hwt : (S.map fun v => v.category).sum = wt) (hfr : rm.frames + 1 ≤ R.frames) (hlo : wt + (ml' + 11) + rm.locals ≤ R.locals) (hcl : kk + rm.cells ≤ R.cells) (hsl : nn + rm.slots ≤ R.slots) (hk' : kk + rm.cells = kk') (hn' : nn + rm.slots = nn')
    (hd : decode B pc = .ok (.invokespecial index, 3)) (hp : pc + 3 = pc')
    (k1 : ∀ T' h', OW p l e R s m args below meth c Z B ml own nm rt n0 z0 T' h' kk' nn' → P' h' → h.size ≤ h'.size → OF p e below n1 z1 EN Q T' (mkF m pc' L S)) : OF p e below n1 z1 EN Q T (mkF m pc L st) := by
  subst hp has hk' hn' hst
  obtain ⟨cx, hz, hz', eT, locs, X, N⟩ := W
  obtain ⟨hx, hZ, hby, hml, hown, hnm, hr, hlk⟩ := cx
  obtain ⟨v, _, ⟨T', L2, k2, n2⟩, -, X2, ⟨Lc, hQ, l2, y2, z2⟩, st2⟩ := X.specialBack hx (y := y) hy1 hown (mvT hZ w1) (mvT hZ w2) (mvT hZ w4) hy (backOf (W := wt) (Q := OQ (QV P') h.size n0) C hZ w4 w3 hfr hlo) (g := mkF m pc L (argsL.reverse ++ .ref a :: S)) rfl (hL.trans hml.symm) (Steps.refl _) (a := a) (argsL := argsL) (rest := S) hlen rfl
    (by show 2 * 0 + _ ≤ _; rw [hwt]; omega) (hb hby hd) (fun _ _ => ⟨rfl, eT, hcl, hsl⟩)
  dsimp only [Pt.U, Pt.locs, Pt.cells, Pt.slots] at X2 l2 y2 z2 st2 hQ
  subst l2 y2 z2
  obtain ⟨⟨rfl, q1⟩, q2, q3⟩ := hQ
  exact OF.step (fun t z => st2.trans z) (k1 T' T'.heap ⟨⟨hx, hZ, hby, hml, hown, hnm, hr, hlk⟩, hz, Nat.le_trans hz' q2, rfl, _, X2, Fr.app N q3⟩ q1 q2)
theorem o_callV {index : Nat} {y z : MethodName} {K : String} {B' : ByteArray} {ml' wt : Nat} {rt' : Option FieldType} {rm : Room} {as : Array Value} {Q' : Option Value → Heap → Prop} {a : Addr} {argsL : List Value} {st : List Value} (W : OW p l e R s m args below meth c Z B ml own nm rt n0 z0 T h kk nn)
    (E : Exa Z h a K) (C : OCon l Z z B' ml' rt' [] rm as h n0 Q') (w1 : (Jvm.Cond.methodLink own index y).before a0 Z = true) (w2 : (Jvm.Cond.declares y).before a0 Z = true) (w5 : NotFace s y) (w6 : (Jvm.Cond.selects K y z).before a0 Z = true) (w7 : (Jvm.Cond.instanceMethod z).before a0 Z = true) (w3 : (Jvm.Cond.initialized z.cls).before a0 Z = true) (w4 : (Jvm.Cond.code z B' ml' rt').before a0 Z = true)
    (hy : y.cls ≠ "java/lang/invoke/MethodHandle" ∧ y.cls ≠ "java/lang/invoke/VarHandle") (hlen : ∀ sig, parseMethodDescriptor y.desc = some sig → argsL.length = sig.parameters.length) (has : (.ref a :: argsL).toArray = as) (hst : st = argsL.reverse ++ .ref a :: S) (hL : L.size = ml)
    (hwt : (S.map fun v => v.category).sum = wt) (hfr : rm.frames + 1 ≤ R.frames) (hlo : wt + (ml' + 11) + rm.locals ≤ R.locals) (hcl : kk + rm.cells ≤ R.cells) (hsl : nn + rm.slots ≤ R.slots) (hk' : kk + rm.cells = kk') (hn' : nn + rm.slots = nn')
    (hd : decode B pc = .ok (.invokevirtual index, 3)) (hp : pc + 3 = pc')
    (k1 : ∀ v T' h', OW p l e R s m args below meth c Z B ml own nm rt n0 z0 T' h' kk' nn' → Q' v h' → h.size ≤ h'.size → OF p e below n1 z1 EN Q T' (mkF m pc' L (v.toList ++ S))) : OF p e below n1 z1 EN Q T (mkF m pc L st) := by
  subst hp has hk' hn' hst
  obtain ⟨cx, hz, hz', eT, locs, X, N⟩ := W
  obtain ⟨hx, hZ, hby, hml, hown, hnm, hr, hlk⟩ := cx
  obtain ⟨cq, kq, qa, qb, qc⟩ := isOf hZ eT E
  obtain ⟨v, _, ⟨T', L2, k2, n2⟩, -, X2, ⟨Lc, hQ, l2, y2, z2⟩, st2⟩ := X.virtualBack hx (y := y) (z := z) hown (mvT hZ w1) (mvT hZ w2) w5 (mvT hZ w6) (mvT hZ w7) hy (backOf (W := wt) (Q := OQ Q' h.size n0) C hZ w4 w3 hfr hlo) qa qc (g := mkF m pc L (argsL.reverse ++ .ref a :: S)) rfl (hL.trans hml.symm) (Steps.refl _) (argsL := argsL) (rest := S) hlen rfl
    (by show 2 * 0 + _ ≤ _; rw [hwt]; omega) (hb hby hd) (fun _ _ => ⟨rfl, eT, hcl, hsl⟩)
  dsimp only [Pt.U, Pt.locs, Pt.cells, Pt.slots] at X2 l2 y2 z2 st2 hQ
  subst l2 y2 z2
  obtain ⟨q1, q2, q3⟩ := hQ
  exact OF.step (fun t z => st2.trans z) (k1 v T' T'.heap ⟨⟨hx, hZ, hby, hml, hown, hnm, hr, hlk⟩, hz, Nat.le_trans hz' q2, rfl, _, X2, Fr.app N q3⟩ q1 q2)
end OwnKit
theorem ow {a0 : Array Value} {Z : State} (hw : ∀ d ∈ tables_1, d.before a0 Z = true) (k : Nat) {d : Jvm.Cond} (h : tables_1[k]? = some d) : d.before a0 Z = true := hw _ (List.mem_of_getElem? h)
theorem own_rng (x : Int32) : -2147483648 ≤ x.toInt ∧ x.toInt < 2147483648 := ⟨x.le_toInt, x.toInt_lt⟩
theorem own_lrng (x : Int64) : -9223372036854775808 ≤ x.toInt ∧ x.toInt < 9223372036854775808 := ⟨x.le_toInt, x.toInt_lt⟩
theorem own_rem (x y : Int32) : (x - (x / y) * y).toInt = x.toInt.tmod y.toInt := by
  have a := (x % y).toInt_lt; have b := (x % y).le_toInt
  rw [Int32.toInt_mod] at a b
  rw [Int32.toInt_sub, Int32.toInt_mul, Int32.toInt_div, Int.bmod_mul_bmod, Int.sub_bmod_bmod, Int.mul_comm, ← Int.tmod_def]
  exact Jvm.Kit.bmod32 b a
theorem own_remp {x y : Int32} (hx : 0 ≤ x.toInt) : (x - (x / y) * y).toInt = x.toInt % y.toInt := by rw [own_rem, Int.tmod_eq_emod_of_nonneg hx]
theorem own_char (x : Int32) : 0 ≤ (x.toUInt32.toUInt16.toUInt32.toInt32).toInt ∧ (x.toUInt32.toUInt16.toUInt32.toInt32).toInt ≤ 65535 := by
  have q := fits_nar_char x
  simp only [fits, nar, Bool.and_eq_true, decide_eq_true_eq, Int32.le_iff_toInt_le] at q
  exact q
theorem own_ix {x y : Int32} {n : Nat} (hx : 0 ≤ x.toInt) (hy : y.toInt = n) (hn : 0 < n) : ∃ i : Nat, (x - x / y * y).toInt = i ∧ i < n := by
  have h := own_remp (y := y) hx
  rw [hy] at h
  have h1 := Int.emod_nonneg x.toInt (b := (n : Int)) (by omega)
  have h2 := Int.emod_lt_of_pos x.toInt (b := (n : Int)) (by omega)
  exact ⟨(x.toInt % n).toNat, by omega, by omega⟩
theorem own_nz {v : Int32} {n : Nat} (h : v.toInt = n) (hn : 0 < n) : v ≠ 0 := fun e => by
  rw [e] at h; have c0 : (0 : Int32).toInt = 0 := rfl; omega
theorem own_and31 (x : Int32) : 0 ≤ (x &&& 2147483647).toInt := by
  have h1 : (x &&& 2147483647).toInt = x.toInt % 2147483648 := Jvm.Kit.i32_mask x 2147483647 (k := 31) (by decide) (by decide)
  omega
theorem own_ushr (x : Int32) {n : UInt32} {k : Nat} (hn : n.toNat = k) (h0 : 0 < k) (hk : k < 32) : ((x.toUInt32 >>> n).toInt32).toInt = ((x.toUInt32.toNat / 2 ^ k : Nat) : Int) := by
  have e : ((x.toUInt32 >>> n).toInt32).toInt = ((x.toUInt32 >>> n).toBitVec).toInt := rfl
  have q : (x.toUInt32 >>> n).toBitVec.toNat = x.toUInt32.toNat / 2 ^ k := by
    show (x.toUInt32 >>> n).toNat = _
    rw [UInt32.toNat_shiftRight, hn, Nat.mod_eq_of_lt hk, Nat.shiftRight_eq_div_pow]
  have lt := x.toUInt32.toNat_lt
  have p1 : 2 ^ 1 ≤ 2 ^ k := Nat.pow_le_pow_right (by decide) h0
  have p2 : x.toUInt32.toNat / 2 ^ k ≤ x.toUInt32.toNat / 2 ^ 1 := Nat.div_le_div_left p1 (by decide)
  rw [e, BitVec.toInt_eq_toNat_cond, q, if_pos (by omega)]
theorem own_ushr1 (x : Int32) : 0 ≤ ((x.toUInt32 >>> ((1 : Int32) &&& 31).toUInt32).toInt32).toInt := by
  rw [own_ushr x (k := 1) (by decide) (by decide) (by decide)]; omega
theorem own_nn {v : Int32} (h : 0 ≤ v.toInt) : v.toBitVec.toNat = v.toInt.toNat := by
  have q : v.toInt = v.toBitVec.toInt := rfl
  rw [BitVec.toInt_eq_toNat_cond] at q
  have := v.toBitVec.isLt
  split at q <;> omega
theorem own_lnn {v : Int64} (h : 0 ≤ v.toInt) : v.toBitVec.toNat = v.toInt.toNat := by
  have q : v.toInt = v.toBitVec.toInt := rfl
  rw [BitVec.toInt_eq_toNat_cond] at q
  have := v.toBitVec.isLt
  split at q <;> omega
theorem own_ldiv {x y : Int64} (hx : 0 ≤ x.toInt) : (x / y).toInt = x.toInt / y.toInt := by
  rw [Jvm.Kit.i64_div (by omega), Int.tdiv_eq_ediv_of_nonneg hx]
theorem own_lim (b : Int) (hb : 0 ≤ b) : 0 ≤ 4194304 / (b / 64 + 1) ∧ 4194304 / (b / 64 + 1) ≤ 4194304 := by
  refine ⟨Int.ediv_nonneg (by decide) (by omega), ?_⟩
  exact Int.le_trans (Int.ediv_le_self _ (by decide)) (Int.le_refl _)
theorem own_lnz {x : Int64} (h : ¬ x.toInt = 0) : x ≠ 0 := fun e => h (by rw [e]; rfl)
theorem own_words (x : Int64) (hx : 0 ≤ x.toInt) : (x / 64 + 1).toInt = x.toInt / 64 + 1 := by
  have h := own_lrng x
  have e := own_ldiv (y := 64) hx
  have c64 : (64 : Int64).toInt = 64 := rfl
  have c1 : (1 : Int64).toInt = 1 := rfl
  rw [c64] at e
  rw [Jvm.Kit.i64_add (by omega) (by omega), e, c1]
theorem own_pn0 : plainName "com/example/athanor/athanor/Budget" = true := by first | (simp [plainName, overriddenIn]; done) | decide +kernel
theorem own_ef4 (m : MethodId) (z0 : Int64) : entryFrame m #[(.long z0)] 2 = mkF m 0 #[.val (.long z0), .second] [] := by first | (simp [entryFrame, mkF, argsToLocals, Value.category]; done) | rfl
theorem own_d4_0 : decode prog_1_method_8_code 0 = .ok (.lload_n 0, 1) := by decide +kernel
theorem own_d4_1 : decode prog_1_method_8_code 1 = .ok (.ldc2_w 48, 3) := by decide +kernel
theorem own_d4_4 : decode prog_1_method_8_code 4 = .ok (.ldiv, 1) := by decide +kernel
theorem own_d4_5 : decode prog_1_method_8_code 5 = .ok (.lconst 1, 1) := by decide +kernel
theorem own_d4_6 : decode prog_1_method_8_code 6 = .ok (.ladd, 1) := by decide +kernel
theorem own_d4_7 : decode prog_1_method_8_code 7 = .ok (.lreturn, 1) := by decide +kernel
set_option maxRecDepth 65536 in
set_option maxHeartbeats 4000000 in
theorem rm4 (l : Launch) (Z : State) (a0 : Array Value) (hw : ∀ d ∈ tables_1, d.before a0 Z = true) (y0 : Int64) (h0 : Heap) (n0 : Nat) (Z0 : n0 ≤ h0.size) :
    OCon l Z (⟨"com/example/athanor/athanor/Budget", "words", "(J)J"⟩ : MethodName) prog_1_method_8_code 2 (some .long) [] ({ frames := 0, cells := 0, slots := 0, locals := 0 } : Room) #[(.long y0)] h0 n0 (QJ fun r h' => r = y0 / 64 + 1 ∧ h0 = h') := by
  refine OCon.mk (plainFor_of_name own_pn0) Z0 ?_
  intro p e s m below meth cd s₁ W0
  refine OF.cast (own_ef4 m y0) ?_
  refine o_lloadN W0 own_d4_0 (v := y0) rfl (pc' := 1) rfl ?_
  refine o_ldc2_w W0 (ow hw 24 rfl) own_d4_1 (pc' := 4) rfl ?_
  refine o_ldiv W0 own_d4_4 (by decide) (pc' := 5) rfl ?_
  refine o_lconst W0 (v := (1 : Int64)) own_d4_5 rfl (pc' := 6) rfl ?_
  refine o_ladd W0 own_d4_6 (pc' := 7) rfl ?_
  refine o_retJ W0 rfl own_d4_7 (by decide) (by decide) ?_
  exact ⟨_, rfl, rfl, rfl⟩
theorem own_ef3 (m : MethodId) (z0 : Addr) (z1 : Int64) (z2 : Int64) : entryFrame m #[(.ref z0), (.long z1), (.long z2)] 5 = mkF m 0 #[.val (.ref z0), .val (.long z1), .second, .val (.long z2), .second] [] := by first | (simp [entryFrame, mkF, argsToLocals, Value.category]; done) | rfl
theorem own_d3_0 : decode prog_1_method_7_code 0 = .ok (.lload_n 1, 1) := by decide +kernel
theorem own_d3_1 : decode prog_1_method_7_code 1 = .ok (.ldc2_w 42, 3) := by decide +kernel
theorem own_d3_4 : decode prog_1_method_7_code 4 = .ok (.lload_n 3, 1) := by decide +kernel
theorem own_d3_5 : decode prog_1_method_7_code 5 = .ok (.invokestatic 15, 3) := by decide +kernel
theorem own_pd0 : parseMethodDescriptor "(J)J" = some ⟨[.long], some .long⟩ := by decide +kernel
theorem own_d3_8 : decode prog_1_method_7_code 8 = .ok (.ldiv, 1) := by decide +kernel
theorem own_d3_9 : decode prog_1_method_7_code 9 = .ok (.lcmp, 1) := by decide +kernel
theorem own_d3_10 : decode prog_1_method_7_code 10 = .ok (.ifCond .le 13, 3) := by decide +kernel
theorem own_d3_23 : decode prog_1_method_7_code 23 = .ok (.return_, 1) := by decide +kernel
set_option maxRecDepth 65536 in
set_option maxHeartbeats 4000000 in
theorem rm3 (l : Launch) (Z : State) (a0 : Array Value) (hw : ∀ d ∈ tables_1, d.before a0 Z = true) (b0 : Addr) (y1 : Int64) (y2 : Int64) (h0 : Heap) (n0 : Nat) (Z0 : n0 ≤ h0.size) (hy2 : 0 ≤ y2.toInt) (hy1 : y1.toInt ≤ 4194304 / (y2.toInt / 64 + 1)) :
    OCon l Z (⟨"com/example/athanor/athanor/Budget", "hold", "(JJ)V"⟩ : MethodName) prog_1_method_7_code 5 none [] ({ frames := 1, cells := 0, slots := 0, locals := 17 } : Room) #[(.ref b0), (.long y1), (.long y2)] h0 n0 (QV fun h' => h0 = h') := by
  refine OCon.mk (plainFor_of_name own_pn0) Z0 ?_
  intro p e s m below meth cd s₁ W0
  refine OF.cast (own_ef3 m b0 y1 y2) ?_
  refine o_lloadN W0 own_d3_0 (v := y1) rfl (pc' := 1) rfl ?_
  refine o_ldc2_w W0 (ow hw 20 rfl) own_d3_1 (pc' := 4) rfl ?_
  refine o_lloadN W0 own_d3_4 (v := y2) rfl (pc' := 5) rfl ?_
  refine o_callSJ W0 (rm4 l Z a0 hw y2 h0 n0 W0.le) (ow hw 21 rfl) (ow hw 22 rfl) (ow hw 5 rfl) (ow hw 23 rfl) (by decide) (argsL := [(.long y2)]) (S := [(.long (4194304 : Int64)), (.long y1)]) (lenOf own_pd0 rfl) rfl rfl rfl (wt := 4) rfl (by decide) (by decide) (by decide) (by decide) (kk' := 0) rfl (nn' := 0) rfl own_d3_5 (pc' := 8) rfl ?_
  intro r1 T1 h1 W1 q1 z1
  obtain ⟨q1, rfl⟩ := q1
  have ew := own_words y2 hy2
  rw [← q1] at ew
  have cc : (4194304 : Int64).toInt = 4194304 := rfl
  have ed := own_ldiv (x := 4194304) (y := r1) (by omega)
  rw [ew, cc] at ed
  refine o_ldiv W1 own_d3_8 (own_lnz (by omega)) (pc' := 9) rfl ?_
  refine o_lcmp_le W1 own_d3_9 (pc1 := 10) rfl own_d3_10 (by decide) (pq := 23) (by decide) (pc' := 13) rfl (fun hc9 => ?_) (fun hc9 => ?_)
  · refine o_retV W1 rfl own_d3_23 (by decide) (by decide) ?_
    exact ⟨rfl, rfl⟩
  · exfalso; omega
theorem own_ef1 (m : MethodId) (z0 : Addr) : entryFrame m #[(.ref z0)] 1 = mkF m 0 #[.val (.ref z0)] [] := by first | (simp [entryFrame, mkF, argsToLocals, Value.category]; done) | rfl
theorem own_d1_0 : decode prog_1_method_1_code 0 = .ok (.aload_n 0, 1) := by decide +kernel
theorem own_d1_1 : decode prog_1_method_1_code 1 = .ok (.invokespecial 1, 3) := by decide +kernel
theorem own_d1_4 : decode prog_1_method_1_code 4 = .ok (.aload_n 0, 1) := by decide +kernel
theorem own_d1_5 : decode prog_1_method_1_code 5 = .ok (.ldc2_w 9, 3) := by decide +kernel
theorem own_d1_8 : decode prog_1_method_1_code 8 = .ok (.putfield 11, 3) := by decide +kernel
theorem own_d1_11 : decode prog_1_method_1_code 11 = .ok (.return_, 1) := by decide +kernel
set_option maxRecDepth 65536 in
set_option maxHeartbeats 4000000 in
theorem rm1 (l : Launch) (Z : State) (a0 : Array Value) (hw : ∀ d ∈ tables_1, d.before a0 Z = true) (b0 : Addr) (h0 : Heap) (n0 : Nat) (Z0 : n0 ≤ h0.size) (E0 : Exa Z h0 b0 "com/example/athanor/athanor/Budget") (F0 : Fld Z h0 b0 "com/example/athanor/athanor/Budget" "left" "J" (.long (0 : Int64))) (g0 : n0 ≤ b0) :
    OCon l Z (⟨"com/example/athanor/athanor/Budget", "<init>", "()V"⟩ : MethodName) prog_1_method_1_code 1 none [] ({ frames := 1, cells := 0, slots := 0, locals := 12 } : Room) #[(.ref b0)] h0 n0 (QV fun h' => Exa Z h' b0 "com/example/athanor/athanor/Budget") := by
  refine OCon.mk (plainFor_of_name own_pn0) Z0 ?_
  intro p e s m below meth cd s₁ W0
  refine OF.cast (own_ef1 m b0) ?_
  refine o_aloadN W0 own_d1_0 (v := (.ref b0)) rfl rfl (pc' := 1) rfl ?_
  refine o_initO W0 (ow hw 9 rfl) (ow hw 10 rfl) (ow hw 11 rfl) rfl (wt := 0) rfl (by decide) (by decide) own_d1_1 (pc' := 4) rfl ?_
  intro T2 W2
  refine o_aloadN W2 own_d1_4 (v := (.ref b0)) rfl rfl (pc' := 5) rfl ?_
  refine o_ldc2_w W2 (ow hw 12 rfl) own_d1_5 (pc' := 8) rfl ?_
  refine o_putF W2 (ow hw 13 rfl) F0 E0 (Or.inl (ow hw 14 rfl)) (ow hw 4 rfl) (ty := .long) (by decide) (v' := (.long (600000000 : Int64))) rfl rfl g0 own_d1_8 (pc' := 11) rfl ?_
  intro T3 h3 W3 R3
  have F_left_b0_3 := F0.same R3
  have X_b0_3 := Exa.wr R3 E0
  refine o_retV W3 rfl own_d1_11 (by decide) (by decide) ?_
  exact ⟨rfl, X_b0_3⟩
theorem own_pn1 : plainName "com/example/athanor/athanor/BudgetHoldPinLaw" = true := by first | (simp [plainName, overriddenIn]; done) | decide +kernel
theorem own_ef0 (m : MethodId) (z0 : Int64) (z1 : Int64) (z2 : Int32) : entryFrame m #[(.long z0), (.long z1), (.int z2)] maxLocals = mkF m 0 #[.val (.long z0), .second, .val (.long z1), .second, .val (.int z2), .unset, .unset, .unset, .unset, .unset, .unset, .unset, .unset, .unset] [] := by first | (simp [entryFrame, mkF, argsToLocals, Value.category, maxLocals]; done) | rfl
theorem own_pd1 : parseMethodDescriptor "()V" = some ⟨[], none⟩ := by decide +kernel
theorem own_pd2 : parseMethodDescriptor "(JJ)V" = some ⟨[.long, .long], none⟩ := by decide +kernel
set_option maxRecDepth 65536 in
set_option maxHeartbeats 4000000 in
theorem own_law (l : Launch) (Z : State) (a0 : Array Value) (hw : ∀ d ∈ tables_1, d.before a0 Z = true) (x0 : Int64) (x1 : Int64) (x2 : Int32) (h0 : Heap) (n0 : Nat) (Z0 : n0 ≤ h0.size) :
    OCon l Z x code maxLocals ret tables_1 room_1 #[(.long x0), (.long x1), (.int x2)] h0 n0 (fun v _ => v = some (.int 1)) := by
  refine OCon.mk (plainFor_of_name own_pn1) Z0 ?_
  intro p e s m below meth cd s₁ W0
  refine OF.cast (own_ef0 m x0 x1 x2) ?_
  have c_0___Int64_ : (0 : Int64).toInt = 0 := rfl
  have m1 : (x1 &&& 9223372036854775807).toInt = x1.toInt % 9223372036854775808 := Jvm.Kit.i64_mask x1 9223372036854775807 (k := 63) (by decide) (by decide)
  have m2 : (x1 &&& 268435455).toInt = x1.toInt % 268435456 := Jvm.Kit.i64_mask x1 268435455 (k := 28) (by decide) (by decide)
  have m3 : (x0 &&& 9223372036854775807).toInt = x0.toInt % 9223372036854775808 := Jvm.Kit.i64_mask x0 9223372036854775807 (k := 63) (by decide) (by decide)
  have c1 : (1 : Int64).toInt = 1 := rfl
  have cc : (4194304 : Int64).toInt = 4194304 := rfl
  have c0 : (0 : Int64).toInt = 0 := rfl
  refine o_iload W0 at_0 (v := x2) rfl (pc' := 2) rfl ?_
  refine o_iconst W0 (v := (2 : Int32)) at_2 rfl (pc' := 3) rfl ?_
  refine o_iand W0 at_3 (pc' := 4) rfl ?_
  refine o_if_eq W0 at_4 (by decide) (pq := 15) (by decide) (pc' := 7) rfl (fun hc4 => ?_) (fun hc4 => ?_)
  · refine o_lloadN W0 at_15 (v := x1) rfl (pc' := 16) rfl ?_
    refine o_ldc2_w W0 (ow hw 0 rfl) at_16 (pc' := 19) rfl ?_
    refine o_land W0 at_19 (pc' := 20) rfl ?_
    refine o_lstoreG W0 (Lf := fun v4 => #[.val (.long x0), .second, .val (.long x1), .second, .val (.int x2), .val (.long v4), .second, .unset, .unset, .unset, .unset, .unset, .unset, .unset]) at_20 rfl (pc' := 22) rfl ?_
    intro v4 hv4
    have hb0 : 0 ≤ v4.toInt := by rw [hv4]; omega
    have hl0 := own_lim v4.toInt hb0
    have hrg := own_lrng v4
    refine o_lload W0 at_22 (v := v4) rfl (pc' := 24) rfl ?_
    refine o_bipush W0 (v := (6 : Int32)) at_24 rfl (pc' := 26) rfl ?_
    refine o_lushr W0 at_26 (pc' := 27) rfl ?_
    refine o_lconst W0 (v := (1 : Int64)) at_27 rfl (pc' := 28) rfl ?_
    refine o_ladd W0 at_28 (pc' := 29) rfl ?_
    refine o_lstoreG W0 (Lf := fun v5 => #[.val (.long x0), .second, .val (.long x1), .second, .val (.int x2), .val (.long v4), .second, .val (.long v5), .second, .unset, .unset, .unset, .unset, .unset]) at_29 rfl (pc' := 31) rfl ?_
    intro v5 hv5
    have hsh : ((v4.toUInt64 >>> ((6 : Int32) &&& 0x3f).toInt64.toUInt64).toInt64).toInt = v4.toInt / 64 := Jvm.Kit.i64_lushr (k := 6) (Jvm.Kit.i64_nonneg.mpr hb0) (by decide) (by decide)
    have hw7 : v5.toInt = v4.toInt / 64 + 1 := by rw [hv5, Jvm.Kit.i64_add (by omega) (by omega), hsh, c1]
    refine o_ldc2_w W0 (ow hw 1 rfl) at_31 (pc' := 34) rfl ?_
    refine o_lload W0 at_34 (v := v5) rfl (pc' := 36) rfl ?_
    refine o_ldiv W0 at_36 (own_lnz (by omega)) (pc' := 37) rfl ?_
    refine o_lstoreG W0 (Lf := fun v6 => #[.val (.long x0), .second, .val (.long x1), .second, .val (.int x2), .val (.long v4), .second, .val (.long v5), .second, .val (.long v6), .second, .unset, .unset, .unset]) at_37 rfl (pc' := 39) rfl ?_
    intro v6 hv6
    have hw9 : v6.toInt = 4194304 / (v4.toInt / 64 + 1) := by rw [hv6, own_ldiv (by omega), hw7, cc]
    refine o_iload W0 at_39 (v := x2) rfl (pc' := 41) rfl ?_
    refine o_iconst W0 (v := (1 : Int32)) at_41 rfl (pc' := 42) rfl ?_
    refine o_iand W0 at_42 (pc' := 43) rfl ?_
    refine o_if_eq W0 at_43 (by decide) (pq := 51) (by decide) (pc' := 46) rfl (fun hc43 => ?_) (fun hc43 => ?_)
    · have hp1 : (v6 + 1).toInt = v6.toInt + 1 := by rw [Jvm.Kit.i64_add (by omega) (by omega), c1]
      have hmd := Jvm.Kit.i64_rem_nonneg (x := x0 &&& 9223372036854775807) (y := v6 + 1) (by omega)
      rw [hp1] at hmd
      have hmd1 := Int.emod_nonneg (x0 &&& 9223372036854775807).toInt (b := v6.toInt + 1) (by omega)
      have hmd2 := Int.emod_lt_of_pos (x0 &&& 9223372036854775807).toInt (b := v6.toInt + 1) (by omega)
      refine o_lloadN W0 at_51 (v := x0) rfl (pc' := 52) rfl ?_
      refine o_ldc2_w W0 (ow hw 2 rfl) at_52 (pc' := 55) rfl ?_
      refine o_land W0 at_55 (pc' := 56) rfl ?_
      refine o_lload W0 at_56 (v := v6) rfl (pc' := 58) rfl ?_
      refine o_lconst W0 (v := (1 : Int64)) at_58 rfl (pc' := 59) rfl ?_
      refine o_ladd W0 at_59 (pc' := 60) rfl ?_
      refine o_lrem W0 at_60 (own_lnz (by omega)) (pc' := 61) rfl ?_
      refine o_lstoreG W0 (Lf := fun v7 => #[.val (.long x0), .second, .val (.long x1), .second, .val (.int x2), .val (.long v4), .second, .val (.long v5), .second, .val (.long v6), .second, .val (.long v7), .second, .unset]) at_61 rfl (pc' := 63) rfl ?_
      intro v7 hv7
      have hv1 : 0 ≤ v7.toInt := by rw [hv7]; omega
      have hv2 : v7.toInt ≤ 4194304 / (v4.toInt / 64 + 1) := by rw [hv7]; omega
      refine o_new W0 (ow hw 3 rfl) (ow hw 4 rfl) (ow hw 5 rfl) at_63 (pc' := 66) rfl (by decide) (by decide) (kk' := 1) rfl (nn' := 1) rfl ?_
      intro T9 h9 a8 W9 E9 g_a8 X_a8 D_a8
      have b_a8 : n0 ≤ a8 := by rw [g_a8]; exact W0.le
      have F_left_a8 : Fld Z h9 a8 "com/example/athanor/athanor/Budget" "left" "J" (.long (0 : Int64)) := D_a8 (Or.inl (ow hw 14 rfl)) (ty := .long) (by decide)
      refine o_dup W9 at_66 rfl (pc' := 67) rfl ?_
      refine o_callC W9 (rm1 l Z a0 hw a8 h9 n0 W9.le X_a8 F_left_a8 b_a8) rfl (ow hw 6 rfl) (ow hw 7 rfl) (ow hw 5 rfl) (ow hw 8 rfl) (by decide) (argsL := []) (S := [(.ref a8)]) (lenOf own_pd1 rfl) rfl rfl rfl (wt := 1) rfl (by decide) (by decide) (by decide) (by decide) (kk' := 1) rfl (nn' := 1) rfl at_67 (pc' := 70) rfl ?_
      intro T10 h10 W10 q10 z10
      have X_a8_10 := q10
      refine o_astore W10 (L' := #[.val (.long x0), .second, .val (.long x1), .second, .val (.int x2), .val (.long v4), .second, .val (.long v5), .second, .val (.long v6), .second, .val (.long v7), .second, .val (.ref a8)]) at_70 rfl rfl (pc' := 72) rfl ?_
      refine o_aload W10 at_72 (v := (.ref a8)) rfl rfl (pc' := 74) rfl ?_
      refine o_lload W10 at_74 (v := v7) rfl (pc' := 76) rfl ?_
      refine o_lload W10 at_76 (v := v4) rfl (pc' := 78) rfl ?_
      refine o_callV W10 X_a8_10 (rm3 l Z a0 hw a8 v7 v4 h10 n0 W10.le hb0 hv2) (ow hw 15 rfl) (ow hw 16 rfl) (notFace_of_selects (args := #[]) (mvT W10.hZ (ow hw 18 rfl))) (ow hw 18 rfl) (ow hw 17 rfl) (ow hw 5 rfl) (ow hw 19 rfl) (by decide) (argsL := [(.long v7), (.long v4)]) (S := []) (lenOf own_pd2 rfl) rfl rfl rfl (wt := 0) rfl (by decide) (by decide) (by decide) (by decide) (kk' := 1) rfl (nn' := 1) rfl at_78 (pc' := 81) rfl ?_
      intro vv T11 h11 W11 q11 z11
      obtain ⟨rfl, q11⟩ := q11
      show OF _ _ _ _ _ _ _ T11 (mkF m 81 #[.val (.long x0), .second, .val (.long x1), .second, .val (.int x2), .val (.long v4), .second, .val (.long v5), .second, .val (.long v6), .second, .val (.long v7), .second, .val (.ref a8)] [])
      obtain rfl := q11
      refine o_aload W11 at_81 (v := (.ref a8)) rfl rfl (pc' := 83) rfl ?_
      refine o_lconst W11 (v := (0 : Int64)) at_83 rfl (pc' := 84) rfl ?_
      refine o_lload W11 at_84 (v := v4) rfl (pc' := 86) rfl ?_
      refine o_callV W11 X_a8_10 (rm3 l Z a0 hw a8 (0 : Int64) v4 h10 n0 W11.le hb0 (by have : (0 : Int64).toInt = 0 := rfl; omega)) (ow hw 15 rfl) (ow hw 16 rfl) (notFace_of_selects (args := #[]) (mvT W11.hZ (ow hw 18 rfl))) (ow hw 18 rfl) (ow hw 17 rfl) (ow hw 5 rfl) (ow hw 19 rfl) (by decide) (argsL := [(.long (0 : Int64)), (.long v4)]) (S := []) (lenOf own_pd2 rfl) rfl rfl rfl (wt := 0) rfl (by decide) (by decide) (by decide) (by decide) (kk' := 1) rfl (nn' := 1) rfl at_86 (pc' := 89) rfl ?_
      intro vv T12 h12 W12 q12 z12
      obtain ⟨rfl, q12⟩ := q12
      show OF _ _ _ _ _ _ _ T12 (mkF m 89 #[.val (.long x0), .second, .val (.long x1), .second, .val (.int x2), .val (.long v4), .second, .val (.long v5), .second, .val (.long v6), .second, .val (.long v7), .second, .val (.ref a8)] [])
      obtain rfl := q12
      refine o_lload W12 at_89 (v := v7) rfl (pc' := 91) rfl ?_
      refine o_lconst W12 (v := (0 : Int64)) at_91 rfl (pc' := 92) rfl ?_
      refine o_lcmp_lt W12 at_92 (pc1 := 93) rfl at_93 (by decide) (pq := 108) (by decide) (pc' := 96) rfl (fun hc92 => ?_) (fun hc92 => ?_)
      · exfalso; omega
      · refine o_lload W12 at_96 (v := v7) rfl (pc' := 98) rfl ?_
        refine o_lload W12 at_98 (v := v6) rfl (pc' := 100) rfl ?_
        refine o_lcmp_gt W12 at_100 (pc1 := 101) rfl at_101 (by decide) (pq := 108) (by decide) (pc' := 104) rfl (fun hc100 => ?_) (fun hc100 => ?_)
        · exfalso; omega
        · refine o_iconst W12 (v := (1 : Int32)) at_104 rfl (pc' := 105) rfl ?_
          refine o_goto W12 at_105 (by decide) (pq := 109) (by decide) ?_
          refine o_retN W12 (t := .boolean) rfl (by simp) at_109 (by decide) (by decide) ?_
          exact rfl
    · refine o_lload W0 at_46 (v := v6) rfl (pc' := 48) rfl ?_
      refine o_goto W0 at_48 (by decide) (pq := 61) (by decide) ?_
      refine o_lstore W0 (L' := #[.val (.long x0), .second, .val (.long x1), .second, .val (.int x2), .val (.long v4), .second, .val (.long v5), .second, .val (.long v6), .second, .val (.long v6), .second, .unset]) at_61 rfl (pc' := 63) rfl ?_
      have hv1 : 0 ≤ v6.toInt := by omega
      have hv2 : v6.toInt ≤ 4194304 / (v4.toInt / 64 + 1) := by omega
      refine o_new W0 (ow hw 3 rfl) (ow hw 4 rfl) (ow hw 5 rfl) at_63 (pc' := 66) rfl (by decide) (by decide) (kk' := 1) rfl (nn' := 1) rfl ?_
      intro T14 h14 a13 W14 E14 g_a13 X_a13 D_a13
      have b_a13 : n0 ≤ a13 := by rw [g_a13]; exact W0.le
      have F_left_a13 : Fld Z h14 a13 "com/example/athanor/athanor/Budget" "left" "J" (.long (0 : Int64)) := D_a13 (Or.inl (ow hw 14 rfl)) (ty := .long) (by decide)
      refine o_dup W14 at_66 rfl (pc' := 67) rfl ?_
      refine o_callC W14 (rm1 l Z a0 hw a13 h14 n0 W14.le X_a13 F_left_a13 b_a13) rfl (ow hw 6 rfl) (ow hw 7 rfl) (ow hw 5 rfl) (ow hw 8 rfl) (by decide) (argsL := []) (S := [(.ref a13)]) (lenOf own_pd1 rfl) rfl rfl rfl (wt := 1) rfl (by decide) (by decide) (by decide) (by decide) (kk' := 1) rfl (nn' := 1) rfl at_67 (pc' := 70) rfl ?_
      intro T15 h15 W15 q15 z15
      have X_a13_15 := q15
      refine o_astore W15 (L' := #[.val (.long x0), .second, .val (.long x1), .second, .val (.int x2), .val (.long v4), .second, .val (.long v5), .second, .val (.long v6), .second, .val (.long v6), .second, .val (.ref a13)]) at_70 rfl rfl (pc' := 72) rfl ?_
      refine o_aload W15 at_72 (v := (.ref a13)) rfl rfl (pc' := 74) rfl ?_
      refine o_lload W15 at_74 (v := v6) rfl (pc' := 76) rfl ?_
      refine o_lload W15 at_76 (v := v4) rfl (pc' := 78) rfl ?_
      refine o_callV W15 X_a13_15 (rm3 l Z a0 hw a13 v6 v4 h15 n0 W15.le hb0 hv2) (ow hw 15 rfl) (ow hw 16 rfl) (notFace_of_selects (args := #[]) (mvT W15.hZ (ow hw 18 rfl))) (ow hw 18 rfl) (ow hw 17 rfl) (ow hw 5 rfl) (ow hw 19 rfl) (by decide) (argsL := [(.long v6), (.long v4)]) (S := []) (lenOf own_pd2 rfl) rfl rfl rfl (wt := 0) rfl (by decide) (by decide) (by decide) (by decide) (kk' := 1) rfl (nn' := 1) rfl at_78 (pc' := 81) rfl ?_
      intro vv T16 h16 W16 q16 z16
      obtain ⟨rfl, q16⟩ := q16
      show OF _ _ _ _ _ _ _ T16 (mkF m 81 #[.val (.long x0), .second, .val (.long x1), .second, .val (.int x2), .val (.long v4), .second, .val (.long v5), .second, .val (.long v6), .second, .val (.long v6), .second, .val (.ref a13)] [])
      obtain rfl := q16
      refine o_aload W16 at_81 (v := (.ref a13)) rfl rfl (pc' := 83) rfl ?_
      refine o_lconst W16 (v := (0 : Int64)) at_83 rfl (pc' := 84) rfl ?_
      refine o_lload W16 at_84 (v := v4) rfl (pc' := 86) rfl ?_
      refine o_callV W16 X_a13_15 (rm3 l Z a0 hw a13 (0 : Int64) v4 h15 n0 W16.le hb0 (by have : (0 : Int64).toInt = 0 := rfl; omega)) (ow hw 15 rfl) (ow hw 16 rfl) (notFace_of_selects (args := #[]) (mvT W16.hZ (ow hw 18 rfl))) (ow hw 18 rfl) (ow hw 17 rfl) (ow hw 5 rfl) (ow hw 19 rfl) (by decide) (argsL := [(.long (0 : Int64)), (.long v4)]) (S := []) (lenOf own_pd2 rfl) rfl rfl rfl (wt := 0) rfl (by decide) (by decide) (by decide) (by decide) (kk' := 1) rfl (nn' := 1) rfl at_86 (pc' := 89) rfl ?_
      intro vv T17 h17 W17 q17 z17
      obtain ⟨rfl, q17⟩ := q17
      show OF _ _ _ _ _ _ _ T17 (mkF m 89 #[.val (.long x0), .second, .val (.long x1), .second, .val (.int x2), .val (.long v4), .second, .val (.long v5), .second, .val (.long v6), .second, .val (.long v6), .second, .val (.ref a13)] [])
      obtain rfl := q17
      refine o_lload W17 at_89 (v := v6) rfl (pc' := 91) rfl ?_
      refine o_lconst W17 (v := (0 : Int64)) at_91 rfl (pc' := 92) rfl ?_
      refine o_lcmp_lt W17 at_92 (pc1 := 93) rfl at_93 (by decide) (pq := 108) (by decide) (pc' := 96) rfl (fun hc92 => ?_) (fun hc92 => ?_)
      · exfalso; omega
      · refine o_lload W17 at_96 (v := v6) rfl (pc' := 98) rfl ?_
        refine o_lload W17 at_98 (v := v6) rfl (pc' := 100) rfl ?_
        refine o_lcmp_gt W17 at_100 (pc1 := 101) rfl at_101 (by decide) (pq := 108) (by decide) (pc' := 104) rfl (fun hc100 => ?_) (fun hc100 => ?_)
        · exfalso; omega
        · refine o_iconst W17 (v := (1 : Int32)) at_104 rfl (pc' := 105) rfl ?_
          refine o_goto W17 at_105 (by decide) (pq := 109) (by decide) ?_
          refine o_retN W17 (t := .boolean) rfl (by simp) at_109 (by decide) (by decide) ?_
          exact rfl
  · refine o_lloadN W0 at_7 (v := x1) rfl (pc' := 8) rfl ?_
    refine o_ldc2_w W0 (ow hw 2 rfl) at_8 (pc' := 11) rfl ?_
    refine o_land W0 at_11 (pc' := 12) rfl ?_
    refine o_goto W0 at_12 (by decide) (pq := 20) (by decide) ?_
    refine o_lstoreG W0 (Lf := fun v18 => #[.val (.long x0), .second, .val (.long x1), .second, .val (.int x2), .val (.long v18), .second, .unset, .unset, .unset, .unset, .unset, .unset, .unset]) at_20 rfl (pc' := 22) rfl ?_
    intro v18 hv18
    have hb0 : 0 ≤ v18.toInt := by rw [hv18]; omega
    have hl0 := own_lim v18.toInt hb0
    have hrg := own_lrng v18
    refine o_lload W0 at_22 (v := v18) rfl (pc' := 24) rfl ?_
    refine o_bipush W0 (v := (6 : Int32)) at_24 rfl (pc' := 26) rfl ?_
    refine o_lushr W0 at_26 (pc' := 27) rfl ?_
    refine o_lconst W0 (v := (1 : Int64)) at_27 rfl (pc' := 28) rfl ?_
    refine o_ladd W0 at_28 (pc' := 29) rfl ?_
    refine o_lstoreG W0 (Lf := fun v19 => #[.val (.long x0), .second, .val (.long x1), .second, .val (.int x2), .val (.long v18), .second, .val (.long v19), .second, .unset, .unset, .unset, .unset, .unset]) at_29 rfl (pc' := 31) rfl ?_
    intro v19 hv19
    have hsh : ((v18.toUInt64 >>> ((6 : Int32) &&& 0x3f).toInt64.toUInt64).toInt64).toInt = v18.toInt / 64 := Jvm.Kit.i64_lushr (k := 6) (Jvm.Kit.i64_nonneg.mpr hb0) (by decide) (by decide)
    have hw7 : v19.toInt = v18.toInt / 64 + 1 := by rw [hv19, Jvm.Kit.i64_add (by omega) (by omega), hsh, c1]
    refine o_ldc2_w W0 (ow hw 1 rfl) at_31 (pc' := 34) rfl ?_
    refine o_lload W0 at_34 (v := v19) rfl (pc' := 36) rfl ?_
    refine o_ldiv W0 at_36 (own_lnz (by omega)) (pc' := 37) rfl ?_
    refine o_lstoreG W0 (Lf := fun v20 => #[.val (.long x0), .second, .val (.long x1), .second, .val (.int x2), .val (.long v18), .second, .val (.long v19), .second, .val (.long v20), .second, .unset, .unset, .unset]) at_37 rfl (pc' := 39) rfl ?_
    intro v20 hv20
    have hw9 : v20.toInt = 4194304 / (v18.toInt / 64 + 1) := by rw [hv20, own_ldiv (by omega), hw7, cc]
    refine o_iload W0 at_39 (v := x2) rfl (pc' := 41) rfl ?_
    refine o_iconst W0 (v := (1 : Int32)) at_41 rfl (pc' := 42) rfl ?_
    refine o_iand W0 at_42 (pc' := 43) rfl ?_
    refine o_if_eq W0 at_43 (by decide) (pq := 51) (by decide) (pc' := 46) rfl (fun hc43 => ?_) (fun hc43 => ?_)
    · have hp1 : (v20 + 1).toInt = v20.toInt + 1 := by rw [Jvm.Kit.i64_add (by omega) (by omega), c1]
      have hmd := Jvm.Kit.i64_rem_nonneg (x := x0 &&& 9223372036854775807) (y := v20 + 1) (by omega)
      rw [hp1] at hmd
      have hmd1 := Int.emod_nonneg (x0 &&& 9223372036854775807).toInt (b := v20.toInt + 1) (by omega)
      have hmd2 := Int.emod_lt_of_pos (x0 &&& 9223372036854775807).toInt (b := v20.toInt + 1) (by omega)
      refine o_lloadN W0 at_51 (v := x0) rfl (pc' := 52) rfl ?_
      refine o_ldc2_w W0 (ow hw 2 rfl) at_52 (pc' := 55) rfl ?_
      refine o_land W0 at_55 (pc' := 56) rfl ?_
      refine o_lload W0 at_56 (v := v20) rfl (pc' := 58) rfl ?_
      refine o_lconst W0 (v := (1 : Int64)) at_58 rfl (pc' := 59) rfl ?_
      refine o_ladd W0 at_59 (pc' := 60) rfl ?_
      refine o_lrem W0 at_60 (own_lnz (by omega)) (pc' := 61) rfl ?_
      refine o_lstoreG W0 (Lf := fun v21 => #[.val (.long x0), .second, .val (.long x1), .second, .val (.int x2), .val (.long v18), .second, .val (.long v19), .second, .val (.long v20), .second, .val (.long v21), .second, .unset]) at_61 rfl (pc' := 63) rfl ?_
      intro v21 hv21
      have hv1 : 0 ≤ v21.toInt := by rw [hv21]; omega
      have hv2 : v21.toInt ≤ 4194304 / (v18.toInt / 64 + 1) := by rw [hv21]; omega
      refine o_new W0 (ow hw 3 rfl) (ow hw 4 rfl) (ow hw 5 rfl) at_63 (pc' := 66) rfl (by decide) (by decide) (kk' := 1) rfl (nn' := 1) rfl ?_
      intro T23 h23 a22 W23 E23 g_a22 X_a22 D_a22
      have b_a22 : n0 ≤ a22 := by rw [g_a22]; exact W0.le
      have F_left_a22 : Fld Z h23 a22 "com/example/athanor/athanor/Budget" "left" "J" (.long (0 : Int64)) := D_a22 (Or.inl (ow hw 14 rfl)) (ty := .long) (by decide)
      refine o_dup W23 at_66 rfl (pc' := 67) rfl ?_
      refine o_callC W23 (rm1 l Z a0 hw a22 h23 n0 W23.le X_a22 F_left_a22 b_a22) rfl (ow hw 6 rfl) (ow hw 7 rfl) (ow hw 5 rfl) (ow hw 8 rfl) (by decide) (argsL := []) (S := [(.ref a22)]) (lenOf own_pd1 rfl) rfl rfl rfl (wt := 1) rfl (by decide) (by decide) (by decide) (by decide) (kk' := 1) rfl (nn' := 1) rfl at_67 (pc' := 70) rfl ?_
      intro T24 h24 W24 q24 z24
      have X_a22_24 := q24
      refine o_astore W24 (L' := #[.val (.long x0), .second, .val (.long x1), .second, .val (.int x2), .val (.long v18), .second, .val (.long v19), .second, .val (.long v20), .second, .val (.long v21), .second, .val (.ref a22)]) at_70 rfl rfl (pc' := 72) rfl ?_
      refine o_aload W24 at_72 (v := (.ref a22)) rfl rfl (pc' := 74) rfl ?_
      refine o_lload W24 at_74 (v := v21) rfl (pc' := 76) rfl ?_
      refine o_lload W24 at_76 (v := v18) rfl (pc' := 78) rfl ?_
      refine o_callV W24 X_a22_24 (rm3 l Z a0 hw a22 v21 v18 h24 n0 W24.le hb0 hv2) (ow hw 15 rfl) (ow hw 16 rfl) (notFace_of_selects (args := #[]) (mvT W24.hZ (ow hw 18 rfl))) (ow hw 18 rfl) (ow hw 17 rfl) (ow hw 5 rfl) (ow hw 19 rfl) (by decide) (argsL := [(.long v21), (.long v18)]) (S := []) (lenOf own_pd2 rfl) rfl rfl rfl (wt := 0) rfl (by decide) (by decide) (by decide) (by decide) (kk' := 1) rfl (nn' := 1) rfl at_78 (pc' := 81) rfl ?_
      intro vv T25 h25 W25 q25 z25
      obtain ⟨rfl, q25⟩ := q25
      show OF _ _ _ _ _ _ _ T25 (mkF m 81 #[.val (.long x0), .second, .val (.long x1), .second, .val (.int x2), .val (.long v18), .second, .val (.long v19), .second, .val (.long v20), .second, .val (.long v21), .second, .val (.ref a22)] [])
      obtain rfl := q25
      refine o_aload W25 at_81 (v := (.ref a22)) rfl rfl (pc' := 83) rfl ?_
      refine o_lconst W25 (v := (0 : Int64)) at_83 rfl (pc' := 84) rfl ?_
      refine o_lload W25 at_84 (v := v18) rfl (pc' := 86) rfl ?_
      refine o_callV W25 X_a22_24 (rm3 l Z a0 hw a22 (0 : Int64) v18 h24 n0 W25.le hb0 (by have : (0 : Int64).toInt = 0 := rfl; omega)) (ow hw 15 rfl) (ow hw 16 rfl) (notFace_of_selects (args := #[]) (mvT W25.hZ (ow hw 18 rfl))) (ow hw 18 rfl) (ow hw 17 rfl) (ow hw 5 rfl) (ow hw 19 rfl) (by decide) (argsL := [(.long (0 : Int64)), (.long v18)]) (S := []) (lenOf own_pd2 rfl) rfl rfl rfl (wt := 0) rfl (by decide) (by decide) (by decide) (by decide) (kk' := 1) rfl (nn' := 1) rfl at_86 (pc' := 89) rfl ?_
      intro vv T26 h26 W26 q26 z26
      obtain ⟨rfl, q26⟩ := q26
      show OF _ _ _ _ _ _ _ T26 (mkF m 89 #[.val (.long x0), .second, .val (.long x1), .second, .val (.int x2), .val (.long v18), .second, .val (.long v19), .second, .val (.long v20), .second, .val (.long v21), .second, .val (.ref a22)] [])
      obtain rfl := q26
      refine o_lload W26 at_89 (v := v21) rfl (pc' := 91) rfl ?_
      refine o_lconst W26 (v := (0 : Int64)) at_91 rfl (pc' := 92) rfl ?_
      refine o_lcmp_lt W26 at_92 (pc1 := 93) rfl at_93 (by decide) (pq := 108) (by decide) (pc' := 96) rfl (fun hc92 => ?_) (fun hc92 => ?_)
      · exfalso; omega
      · refine o_lload W26 at_96 (v := v21) rfl (pc' := 98) rfl ?_
        refine o_lload W26 at_98 (v := v20) rfl (pc' := 100) rfl ?_
        refine o_lcmp_gt W26 at_100 (pc1 := 101) rfl at_101 (by decide) (pq := 108) (by decide) (pc' := 104) rfl (fun hc100 => ?_) (fun hc100 => ?_)
        · exfalso; omega
        · refine o_iconst W26 (v := (1 : Int32)) at_104 rfl (pc' := 105) rfl ?_
          refine o_goto W26 at_105 (by decide) (pq := 109) (by decide) ?_
          refine o_retN W26 (t := .boolean) rfl (by simp) at_109 (by decide) (by decide) ?_
          exact rfl
    · refine o_lload W0 at_46 (v := v20) rfl (pc' := 48) rfl ?_
      refine o_goto W0 at_48 (by decide) (pq := 61) (by decide) ?_
      refine o_lstore W0 (L' := #[.val (.long x0), .second, .val (.long x1), .second, .val (.int x2), .val (.long v18), .second, .val (.long v19), .second, .val (.long v20), .second, .val (.long v20), .second, .unset]) at_61 rfl (pc' := 63) rfl ?_
      have hv1 : 0 ≤ v20.toInt := by omega
      have hv2 : v20.toInt ≤ 4194304 / (v18.toInt / 64 + 1) := by omega
      refine o_new W0 (ow hw 3 rfl) (ow hw 4 rfl) (ow hw 5 rfl) at_63 (pc' := 66) rfl (by decide) (by decide) (kk' := 1) rfl (nn' := 1) rfl ?_
      intro T28 h28 a27 W28 E28 g_a27 X_a27 D_a27
      have b_a27 : n0 ≤ a27 := by rw [g_a27]; exact W0.le
      have F_left_a27 : Fld Z h28 a27 "com/example/athanor/athanor/Budget" "left" "J" (.long (0 : Int64)) := D_a27 (Or.inl (ow hw 14 rfl)) (ty := .long) (by decide)
      refine o_dup W28 at_66 rfl (pc' := 67) rfl ?_
      refine o_callC W28 (rm1 l Z a0 hw a27 h28 n0 W28.le X_a27 F_left_a27 b_a27) rfl (ow hw 6 rfl) (ow hw 7 rfl) (ow hw 5 rfl) (ow hw 8 rfl) (by decide) (argsL := []) (S := [(.ref a27)]) (lenOf own_pd1 rfl) rfl rfl rfl (wt := 1) rfl (by decide) (by decide) (by decide) (by decide) (kk' := 1) rfl (nn' := 1) rfl at_67 (pc' := 70) rfl ?_
      intro T29 h29 W29 q29 z29
      have X_a27_29 := q29
      refine o_astore W29 (L' := #[.val (.long x0), .second, .val (.long x1), .second, .val (.int x2), .val (.long v18), .second, .val (.long v19), .second, .val (.long v20), .second, .val (.long v20), .second, .val (.ref a27)]) at_70 rfl rfl (pc' := 72) rfl ?_
      refine o_aload W29 at_72 (v := (.ref a27)) rfl rfl (pc' := 74) rfl ?_
      refine o_lload W29 at_74 (v := v20) rfl (pc' := 76) rfl ?_
      refine o_lload W29 at_76 (v := v18) rfl (pc' := 78) rfl ?_
      refine o_callV W29 X_a27_29 (rm3 l Z a0 hw a27 v20 v18 h29 n0 W29.le hb0 hv2) (ow hw 15 rfl) (ow hw 16 rfl) (notFace_of_selects (args := #[]) (mvT W29.hZ (ow hw 18 rfl))) (ow hw 18 rfl) (ow hw 17 rfl) (ow hw 5 rfl) (ow hw 19 rfl) (by decide) (argsL := [(.long v20), (.long v18)]) (S := []) (lenOf own_pd2 rfl) rfl rfl rfl (wt := 0) rfl (by decide) (by decide) (by decide) (by decide) (kk' := 1) rfl (nn' := 1) rfl at_78 (pc' := 81) rfl ?_
      intro vv T30 h30 W30 q30 z30
      obtain ⟨rfl, q30⟩ := q30
      show OF _ _ _ _ _ _ _ T30 (mkF m 81 #[.val (.long x0), .second, .val (.long x1), .second, .val (.int x2), .val (.long v18), .second, .val (.long v19), .second, .val (.long v20), .second, .val (.long v20), .second, .val (.ref a27)] [])
      obtain rfl := q30
      refine o_aload W30 at_81 (v := (.ref a27)) rfl rfl (pc' := 83) rfl ?_
      refine o_lconst W30 (v := (0 : Int64)) at_83 rfl (pc' := 84) rfl ?_
      refine o_lload W30 at_84 (v := v18) rfl (pc' := 86) rfl ?_
      refine o_callV W30 X_a27_29 (rm3 l Z a0 hw a27 (0 : Int64) v18 h29 n0 W30.le hb0 (by have : (0 : Int64).toInt = 0 := rfl; omega)) (ow hw 15 rfl) (ow hw 16 rfl) (notFace_of_selects (args := #[]) (mvT W30.hZ (ow hw 18 rfl))) (ow hw 18 rfl) (ow hw 17 rfl) (ow hw 5 rfl) (ow hw 19 rfl) (by decide) (argsL := [(.long (0 : Int64)), (.long v18)]) (S := []) (lenOf own_pd2 rfl) rfl rfl rfl (wt := 0) rfl (by decide) (by decide) (by decide) (by decide) (kk' := 1) rfl (nn' := 1) rfl at_86 (pc' := 89) rfl ?_
      intro vv T31 h31 W31 q31 z31
      obtain ⟨rfl, q31⟩ := q31
      show OF _ _ _ _ _ _ _ T31 (mkF m 89 #[.val (.long x0), .second, .val (.long x1), .second, .val (.int x2), .val (.long v18), .second, .val (.long v19), .second, .val (.long v20), .second, .val (.long v20), .second, .val (.ref a27)] [])
      obtain rfl := q31
      refine o_lload W31 at_89 (v := v20) rfl (pc' := 91) rfl ?_
      refine o_lconst W31 (v := (0 : Int64)) at_91 rfl (pc' := 92) rfl ?_
      refine o_lcmp_lt W31 at_92 (pc1 := 93) rfl at_93 (by decide) (pq := 108) (by decide) (pc' := 96) rfl (fun hc92 => ?_) (fun hc92 => ?_)
      · exfalso; omega
      · refine o_lload W31 at_96 (v := v20) rfl (pc' := 98) rfl ?_
        refine o_lload W31 at_98 (v := v20) rfl (pc' := 100) rfl ?_
        refine o_lcmp_gt W31 at_100 (pc1 := 101) rfl at_101 (by decide) (pq := 108) (by decide) (pc' := 104) rfl (fun hc100 => ?_) (fun hc100 => ?_)
        · exfalso; omega
        · refine o_iconst W31 (v := (1 : Int32)) at_104 rfl (pc' := 105) rfl ?_
          refine o_goto W31 at_105 (by decide) (pq := 109) (by decide) ?_
          refine o_retN W31 (t := .boolean) rfl (by simp) at_109 (by decide) (by decide) ?_
          exact rfl
set_option maxRecDepth 65536 in
theorem comes_1 {Post : Tables → Env → Array Value → State → Outcome → State → Prop} (hpost : ∀ tb e args s v u, (limb_1_1.after args s (.returned v) u = true ∧ limb_1_2.after args s (.returned v) u = true ∧ True) → FrameEnd s (.returned v) u (Jvm.fieldLocs frame_1_writes args s ++ Jvm.arrayLocs frame_1_arrays args s ++ Jvm.staticLocs frame_1_statics s) 16 128 → Post tb e args s (.returned v) u) :
    ArmFor flags0 classFile x code maxLocals ret World_1 tables_1 room_1 Calls_1 rest_1 Pre_1 Post := by
  intro l hfl _ _ p e ha hc hk s m args below hf hA hF happ hP
  obtain ⟨hcalls, hrest, hpre⟩ := hP
  obtain ⟨-, -, -, hnamed, -, -, -, hat⟩ := (Spec.applies_iff hf).mp happ
  obtain ⟨hg, hn⟩ := and_e (Cond.before_iff.mp (show (Jvm.Cond.and given_1 narrow_1).before args s = true from hpre))
  obtain ⟨g0, hg1⟩ := and_e hg
  obtain ⟨q0, hg2⟩ := and_e hg1
  obtain ⟨q1, hg3⟩ := and_e hg2
  have q2 := hg3
  obtain ⟨w0, w1, w2, rfl⟩ : ∃ w0 w1 w2 : Value, args = #[w0, w1, w2] := by
    have hs : args.size = 3 := by simpa [Cond.value, given_1] using g0
    obtain ⟨L⟩ := args
    match L, hs with
    | [w0, w1, w2], _ => exact ⟨w0, w1, w2, rfl⟩
  have hw := fun d (hd : d ∈ tables_1) => atoms_spec (ws := Jvm.Cond.code x code maxLocals ret :: tables_1) hat d (List.mem_cons_of_mem _ hd)
  obtain ⟨i0, ei0⟩ := isL_v q0
  obtain rfl : w0 = (.long i0) := Option.some.inj ei0
  obtain ⟨i1, ei1⟩ := isL_v q1
  obtain rfl : w1 = (.long i1) := Option.some.inj ei1
  obtain ⟨i2, ei2⟩ := is_v q2
  obtain rfl : w2 = (.int i2) := Option.some.inj ei2
  obtain ⟨n, o, h1, h2, h3, _, L, rfl, ⟨rfl, -, N⟩, hq⟩ := own_law l s _ hw i0 i1 i2 s.heap s.heap.size (Nat.le_refl _) p e ha hc hk s m _ below hf ((Spec.applies_iff_loose hf).mp happ).1 ⟨rfl, State.Warmed39.refl s, rfl⟩ trivial
  refine ⟨n, _, h1, h2, h3, hpost _ _ _ _ _ _ ⟨Cond.after_iff.mpr rfl, Cond.after_iff.mpr (eq_i res_at (Term.int_eval (1)) rfl), trivial⟩ ⟨hq.1, hq.2.1, (hq.2.2.sift fun y hy => Or.inr (N y hy)).mono (by decide) (by decide)⟩⟩
theorem main_1_1 : Claimed_1_1 := comes_1 fun _ _ _ _ _ _ h hF => ⟨h.1, hF⟩
theorem main_1_2 : Claimed_1_2 := comes_1 fun _ _ _ _ _ _ h hF => ⟨h.2.1, hF⟩
end Jvm.Pilot.@@N@@
namespace Jvm.Pilot.@@N@@
open Jvm Jvm.ClassFile Sem Op Lib Jvm.Free Jvm.Stand Jvm.Pilot.@@N@@.Jvm.D
/-! MADE BY PROGRAM (witnessworld.py) out of the Statement's table words and the real class files: 9 classes; the members and pool entries that the words name. The judged class is class 1, her method 1. -/
namespace start1
open Jvm.ClassFile
def u (s : String) : CpInfo := .utf8 (stringToUtf16 s)
/-- a pool by its gaps: so many unusable entries, then the entry; so many at the end -/
def gap : Nat → List CpInfo → List CpInfo
  | 0, r => r
  | n + 1, r => .unusable :: gap n r
def poolList (es : List (Nat × CpInfo)) (last : Nat) : List CpInfo := es.foldr (fun e r => gap e.1 (e.2 :: r)) (gap last [])
def pool (es : List (Nat × CpInfo)) (last : Nat) : Array CpInfo := ⟨poolList es last⟩
def fileOf (pool : Array CpInfo) (this : Nat) (attrs : Array Attribute := #[]) (ms : Array MethodInfo := #[]) (fl : Nat := 33) (sup : Nat := 0) (ifs : Array Nat := #[]) (fds : Array FieldInfo := #[]) : ClassFile where
  minorVersion := 0
  majorVersion := 65
  constantPool := pool
  accessFlags := fl
  thisClass := this
  superClass := sup
  interfaces := ifs
  fields := fds
  methods := ms
  attributes := attrs
def plain (name : String) (sup : Option ClassId) : Class where
  name := name
  kind := .ordinary
  loader := none
  accessFlags := 33
  super := sup
  interfaces := #[]
  cf := none
  fields := #[]
  methods := #[]
  instanceTypes := #[]
  staticTypes := #[]
  resolved := #[]
  callSites := []
  init := .initialized
  statics := none
  mirror := none

def pool0 : Array CpInfo := pool [(5, u "<init>"), (0, u "()V"), (1, .class_ 10), (1, u "java/lang/Object")] 113

def k0c0 : Code := { maxStack := 0, maxLocals := 1, code := object_method_1_code, exceptionTable := #[], attributes := #[] }
def k0m0 : Method := { name := "<init>", desc := "()V", sig := { parameters := [], returnType := none }, accessFlags := 1, code := some k0c0 }
/-- java/lang/Object -/
def k0 : Class := { plain "java/lang/Object" none with
  accessFlags := 33
  interfaces := #[]
  cf := some (fileOf pool0 8 #[] #[{ accessFlags := 1, nameIndex := 5, descriptorIndex := 6, attributes := #[] }] 33 0 #[] #[])
  fields := #[]
  methods := #[k0m0]
  instanceTypes := #[]
  staticTypes := #[]
  resolved := Array.replicate 124 none
  statics := none }

def pool1 : Array CpInfo := pool [(2, .class_ 4), (0, .nameAndType 5 6), (0, u "java/lang/Object"), (0, u "<init>"), (0, u "()V"), (2, .long 9223372036854775807), (1, .long 268435455), (1, .long 4194304), (1, .class_ 16), (0, u "com/example/athanor/athanor/Budget"), (0, .methodref 15 3), (0, .methodref 15 19), (0, .nameAndType 20 21), (0, u "hold"), (0, u "(JJ)V"), (0, .class_ 23), (0, u "com/example/athanor/athanor/BudgetHoldPinLaw"), (2, u "law"), (0, u "(JJI)Z")] 6

def k1m0 : Method := { name := "<init>", desc := "()V", sig := { parameters := [], returnType := none }, accessFlags := 1, code := none }
def k1c1 : Code := { maxStack := 6, maxLocals := 14, code := code, exceptionTable := #[], attributes := #[] }
def k1m1 : Method := { name := "law", desc := "(JJI)Z", sig := { parameters := [.long, .long, .int], returnType := some .boolean }, accessFlags := 9, code := some k1c1 }
/-- com/example/athanor/athanor/BudgetHoldPinLaw -/
def k1 : Class := { plain "com/example/athanor/athanor/BudgetHoldPinLaw" (some 0) with
  accessFlags := 49
  interfaces := #[]
  cf := some (fileOf pool1 22 #[] #[{ accessFlags := 1, nameIndex := 5, descriptorIndex := 6, attributes := #[] }, { accessFlags := 9, nameIndex := 26, descriptorIndex := 27, attributes := #[] }] 49 2 #[] #[])
  fields := #[]
  methods := #[k1m0, k1m1]
  instanceTypes := #[]
  staticTypes := #[]
  resolved := Array.replicate 34 none
  statics := none }

def pool2 : Array CpInfo := pool [(1, .methodref 2 3), (0, .class_ 4), (0, .nameAndType 5 6), (0, u "java/lang/Object"), (0, u "<init>"), (0, u "()V"), (0, .class_ 8), (0, u "com/example/athanor/athanor/Budget"), (0, .long 600000000), (1, .fieldref 7 12), (0, .nameAndType 13 14), (0, u "left"), (0, u "J"), (0, .methodref 7 16), (0, .nameAndType 17 18), (0, u "words"), (0, u "(J)J"), (15, u "(JJ)V"), (0, .class_ 36), (0, u "com/example/athanor/athanor/Budget$Exceeded"), (5, .long 4194304), (5, .long 64), (1, u "WORK"), (1, u "HELD"), (0, u "OPERATION"), (0, u "DIGITS"), (7, u "hold")] 5

def k2c0 : Code := { maxStack := 3, maxLocals := 1, code := prog_1_method_1_code, exceptionTable := #[], attributes := #[] }
def k2m0 : Method := { name := "<init>", desc := "()V", sig := { parameters := [], returnType := none }, accessFlags := 0, code := some k2c0 }
def k2c1 : Code := { maxStack := 6, maxLocals := 5, code := prog_1_method_7_code, exceptionTable := #[], attributes := #[] }
def k2m1 : Method := { name := "hold", desc := "(JJ)V", sig := { parameters := [.long, .long], returnType := none }, accessFlags := 0, code := some k2c1 }
def k2c2 : Code := { maxStack := 4, maxLocals := 2, code := prog_1_method_8_code, exceptionTable := #[], attributes := #[] }
def k2m2 : Method := { name := "words", desc := "(J)J", sig := { parameters := [.long], returnType := some .long }, accessFlags := 10, code := some k2c2 }
/-- com/example/athanor/athanor/Budget -/
def k2 : Class := { plain "com/example/athanor/athanor/Budget" (some 0) with
  accessFlags := 48
  interfaces := #[]
  cf := some (fileOf pool2 7 #[.nestMembers #[35]] #[{ accessFlags := 0, nameIndex := 5, descriptorIndex := 6, attributes := #[] }, { accessFlags := 0, nameIndex := 62, descriptorIndex := 34, attributes := #[] }, { accessFlags := 10, nameIndex := 17, descriptorIndex := 18, attributes := #[] }] 48 2 #[] #[{ accessFlags := 26, nameIndex := 50, descriptorIndex := 14, attributes := #[] }, { accessFlags := 26, nameIndex := 52, descriptorIndex := 14, attributes := #[] }, { accessFlags := 26, nameIndex := 53, descriptorIndex := 14, attributes := #[] }, { accessFlags := 26, nameIndex := 54, descriptorIndex := 14, attributes := #[] }, { accessFlags := 2, nameIndex := 13, descriptorIndex := 14, attributes := #[] }])
  fields := #[{ name := "WORK", type := .long, accessFlags := 26, slot := 0, constantValue := 0 }, { name := "HELD", type := .long, accessFlags := 26, slot := 1, constantValue := 0 }, { name := "OPERATION", type := .long, accessFlags := 26, slot := 2, constantValue := 0 }, { name := "DIGITS", type := .long, accessFlags := 26, slot := 3, constantValue := 0 }, { name := "left", type := .long, accessFlags := 2, slot := 0, constantValue := 0 }]
  methods := #[k2m0, k2m1, k2m2]
  instanceTypes := #[.long]
  staticTypes := #[.long, .long, .long, .long]
  resolved := Array.replicate 68 none
  statics := none }

def pool3 : Array CpInfo := pool [(1, u "java/lang/Cloneable"), (0, .class_ 1), (0, u "java/lang/Object"), (0, .class_ 3)] 3

/-- java/lang/Cloneable -/
def k3 : Class := { plain "java/lang/Cloneable" (some 0) with
  accessFlags := 1537
  interfaces := #[]
  cf := some (fileOf pool3 2 #[] #[] 1537 4 #[] #[])
  fields := #[]
  methods := #[]
  instanceTypes := #[]
  staticTypes := #[]
  resolved := Array.replicate 8 none
  statics := none }

def pool4 : Array CpInfo := pool [(1, u "java/io/Serializable"), (0, .class_ 1), (0, u "java/lang/Object"), (0, .class_ 3)] 3

/-- java/io/Serializable -/
def k4 : Class := { plain "java/io/Serializable" (some 0) with
  accessFlags := 1537
  interfaces := #[]
  cf := some (fileOf pool4 2 #[] #[] 1537 4 #[] #[])
  fields := #[]
  methods := #[]
  instanceTypes := #[]
  staticTypes := #[]
  resolved := Array.replicate 8 none
  statics := none }

/-- the primitive byte -/
def k5 : Class := { plain "byte" none with kind := .primitive 'B', accessFlags := 0x411 }
/-- [B -/
def k6 : Class := { plain "[B" (some 0) with kind := .array 5 .byte, interfaces := #[3, 4], accessFlags := 1041 }

/-- the primitive int -/
def k7 : Class := { plain "int" none with kind := .primitive 'I', accessFlags := 0x411 }
/-- [I -/
def k8 : Class := { plain "[I" (some 0) with kind := .array 7 .int, interfaces := #[3, 4], accessFlags := 1041 }

def heap : Heap := #[]
def classes : Array Class := #[k0, k1, k2, k3, k4, k5, k6, k7, k8]
def interned : List (Array UInt16 × Addr) := []
def slotsUsed : Nat := 0
def theMethod : MethodId := ⟨1, 1⟩
def args0 : Array Value := #[.long 5, .long 77, .int 1]
def aboutOver (below : List Frame) : State where
  vm := { classes := classes, interned := interned.toArray }
  heap := heap
  slotsUsed := slotsUsed
  threads := #[{ frames := .invoking theMethod args0 :: below }]
def below0 : List Frame := [.native { method := ⟨0, 0⟩, args := #[] }]
def about1 : State := aboutOver below0
def p0 : Program := .bare "" "" ""
def e0 : Env := launch0.env 0 0 0
theorem w_frames : about1.frames = Frame.invoking theMethod args0 :: below0 := rfl
set_option maxRecDepth 65536 in
theorem w_args : argsFit about1.vm theMethod args0 = true := by decide +kernel
set_option maxRecDepth 65536 in
theorem w_heap : heapFits about1 = true := by decide +kernel
set_option maxRecDepth 65536 in
theorem w_runnable : about1.curStatus? = some .runnable := by decide +kernel
set_option maxRecDepth 65536 in
theorem w_alone : about1.alone = true := by decide +kernel
set_option maxRecDepth 65536 in
theorem w_named : about1.methodNamed? x = some theMethod := by decide +kernel
set_option maxRecDepth 65536 in
theorem w_hears : about1.hears theMethod below0 = true := by decide +kernel
set_option maxRecDepth 65536 in
theorem w_ripe : about1.ripe theMethod args0 below0 = true := by decide +kernel
theorem w_running : about1.status = .running := rfl
set_option maxRecDepth 65536 in
theorem w_room : about1.hasRoom e0.platform room_1 = true :=
  launch0.hasRoom_least _ room_1 (by decide +kernel) (by decide +kernel) (by decide +kernel) (by decide +kernel) (by decide +kernel) (by decide +kernel)
theorem allAtoms_all (ts : List Jvm.Cond) (a : Array Jvm.Value) (st : Jvm.State) : (allAtoms ts).before a st = ts.all (fun c => c.before a st) := by
  induction ts with
  | nil => rfl
  | cons c t ih =>
    show (Jvm.Cond.and c (allAtoms t)).before a st = _
    rw [Jvm.Cond.before_and, ih, List.all_cons]
def words1 : List Jvm.Cond := Jvm.Cond.code x code maxLocals ret :: tables_1
/-- a 'code' word, met by the world's own term for the bytes: nothing is compared byte by byte -/
theorem code_word {y : MethodName} {bytes : ByteArray} {mx : Nat} {rt : Option FieldType} {a : Array Value} {s : State} {m : MethodId} {meth : Method} {c : Code} (h1 : s.methodNamed? y = some m) (h2 : s.vm.method? m = some meth) (h3 : meth.code = some c) (h4 : c.code = bytes)
    (h5 : (c.maxLocals == mx && c.exceptionTable.isEmpty && decide (c.maxStack ≤ mostOperands) && decide (meth.sig.returnType = rt) && !meth.locks && decide (parseMethodDescriptor y.desc = some meth.sig)) = true) : (Jvm.Cond.code y bytes mx rt).before a s = true := by
  simp only [Bool.and_eq_true, beq_iff_eq, Bool.not_eq_true', decide_eq_true_eq] at h5
  obtain ⟨⟨⟨⟨⟨g1, g2⟩, g3⟩, g4⟩, g5⟩, g6⟩ := h5
  simp [Cond.before, Cond.holds, Cond.value, h1, h2, h3, h4, g1, g2, g3, g4, g5, g6]
def isCode : Jvm.Cond → Bool
  | .code _ _ _ _ => true
  | _ => false
theorem all_split {L : List Jvm.Cond} {P : Jvm.Cond → Bool} (h1 : L.all (fun c => isCode c || P c) = true) (h2 : ∀ c ∈ L.filter isCode, P c = true) : L.all P = true := by
  refine List.all_eq_true.mpr fun c hc => ?_
  have h := List.all_eq_true.mp h1 c hc
  rcases Bool.eq_false_or_eq_true (isCode c) with hi | hi
  · exact h2 c (List.mem_filter.mpr ⟨hc, hi⟩)
  · simpa [hi] using h
set_option maxRecDepth 65536 in
theorem w_c0 : (Jvm.Cond.code x code maxLocals ret).before args0 about1 = true := code_word (m := ⟨1, 1⟩) (meth := k1m1) (c := k1c1) (by decide +kernel) rfl rfl rfl (by decide +kernel)
set_option maxRecDepth 65536 in
theorem w_c1 : (Jvm.Cond.code ({ cls := "com/example/athanor/athanor/Budget", name := "<init>", desc := "()V" } : Jvm.MethodName) prog_1_method_1_code (1 : Nat) (Option.none : Option Jvm.ClassFile.FieldType)).before args0 about1 = true := code_word (m := ⟨2, 0⟩) (meth := k2m0) (c := k2c0) (by decide +kernel) rfl rfl rfl (by decide +kernel)
set_option maxRecDepth 65536 in
theorem w_c2 : (Jvm.Cond.code ({ cls := "java/lang/Object", name := "<init>", desc := "()V" } : Jvm.MethodName) object_method_1_code (1 : Nat) (Option.none : Option Jvm.ClassFile.FieldType)).before args0 about1 = true := code_word (m := ⟨0, 0⟩) (meth := k0m0) (c := k0c0) (by decide +kernel) rfl rfl rfl (by decide +kernel)
set_option maxRecDepth 65536 in
theorem w_c3 : (Jvm.Cond.code ({ cls := "com/example/athanor/athanor/Budget", name := "hold", desc := "(JJ)V" } : Jvm.MethodName) prog_1_method_7_code (5 : Nat) (Option.none : Option Jvm.ClassFile.FieldType)).before args0 about1 = true := code_word (m := ⟨2, 1⟩) (meth := k2m1) (c := k2c1) (by decide +kernel) rfl rfl rfl (by decide +kernel)
set_option maxRecDepth 65536 in
theorem w_c4 : (Jvm.Cond.code ({ cls := "com/example/athanor/athanor/Budget", name := "words", desc := "(J)J" } : Jvm.MethodName) prog_1_method_8_code (2 : Nat) (Option.some Jvm.ClassFile.FieldType.long)).before args0 about1 = true := code_word (m := ⟨2, 2⟩) (meth := k2m2) (c := k2c2) (by decide +kernel) rfl rfl rfl (by decide +kernel)
def codes1 : List Jvm.Cond := [Jvm.Cond.code x code maxLocals ret, Jvm.Cond.code ({ cls := "com/example/athanor/athanor/Budget", name := "<init>", desc := "()V" } : Jvm.MethodName) prog_1_method_1_code (1 : Nat) (Option.none : Option Jvm.ClassFile.FieldType), Jvm.Cond.code ({ cls := "java/lang/Object", name := "<init>", desc := "()V" } : Jvm.MethodName) object_method_1_code (1 : Nat) (Option.none : Option Jvm.ClassFile.FieldType), Jvm.Cond.code ({ cls := "com/example/athanor/athanor/Budget", name := "hold", desc := "(JJ)V" } : Jvm.MethodName) prog_1_method_7_code (5 : Nat) (Option.none : Option Jvm.ClassFile.FieldType), Jvm.Cond.code ({ cls := "com/example/athanor/athanor/Budget", name := "words", desc := "(J)J" } : Jvm.MethodName) prog_1_method_8_code (2 : Nat) (Option.some Jvm.ClassFile.FieldType.long)]
set_option maxRecDepth 65536 in
theorem codes_eq : words1.filter isCode = codes1 := rfl
theorem w_codes : ∀ c ∈ words1.filter isCode, c.before args0 about1 = true := by
  rw [codes_eq]
  intro c hc
  simp only [codes1, List.mem_cons, List.not_mem_nil, or_false] at hc
  rcases hc with rfl | rfl | rfl | rfl | rfl
  · exact w_c0
  · exact w_c1
  · exact w_c2
  · exact w_c3
  · exact w_c4
set_option maxRecDepth 65536 in
theorem w_t1 : (words1.take 24).all (fun c => isCode c || c.before args0 about1) = true := by decide +kernel
set_option maxRecDepth 65536 in
theorem w_t2 : (words1.drop 24).all (fun c => isCode c || c.before args0 about1) = true := by decide +kernel
theorem w_tables : (allAtoms (Jvm.Cond.code x code maxLocals ret :: tables_1)).before args0 about1 = true := by
  rw [allAtoms_all]
  show words1.all (fun c => c.before args0 about1) = true
  refine all_split ?_ w_codes
  rw [← List.take_append_drop 24 words1, List.all_append, w_t1, w_t2]
  rfl
set_option maxRecDepth 65536 in
theorem w_case : (Jvm.Cond.and given_1 narrow_1).before args0 about1 = true := by decide +kernel
theorem w_applies : (headSpec (Jvm.Cond.code x code maxLocals ret :: tables_1) room_1).applies x e0.platform about1 = true :=
  (Spec.applies_iff w_frames).mpr ⟨w_running, w_runnable, w_alone, w_named, w_hears, w_ripe, w_room, w_tables⟩
theorem atStart : AtStart classFile x code maxLocals ret World_1 tables_1 room_1 Calls_1 rest_1 Pre_1 launch0 p0 e0 about1 theMethod args0 below0 :=
  ⟨lists_1, trivial, launch0.admits_env _ _ _, launch0.least_env, fairChoices_fair.cas, fairChoices_fair.clock, w_frames, w_args, w_heap, w_applies, trivial, trivial, w_case⟩
end start1
theorem witness_1 : WitnessClaimed_1 := ⟨start1.p0, start1.e0, start1.about1, start1.theMethod, start1.args0, start1.below0, start1.atStart⟩
end Jvm.Pilot.@@N@@
