import JvmDerived
import JvmDerived.Pilot.@@N@@Statement
import JvmDerived.Pilot.@@N@@Code
set_option linter.unusedVariables false
set_option linter.unusedSimpArgs false
@@BLOCK:NumsL.lean.txt@@
namespace Jvm.Pilot.@@N@@
open Jvm Jvm.ClassFile Sem Op Lib Jvm.Free Jvm.Stand Jvm.LawKit Jvm.RoadKit Bundle Jvm.Pilot.@@N@@.Jvm.D
section OwnKit
variable {p : Program} {l : Launch} {e : Env} {R : Room} {s : State} {m : MethodId} {args : Array Value} {below : List Frame} {meth : Method} {c : Code} {Z : State} {B : ByteArray} {ml : Nat} {own nm : String} {rt : Option FieldType} {n0 z0 n1 z1 kc ns : Nat} {EN : Outcome → State → List Loc → Prop} {T : State} {h h' : Heap} {kk nn kk' nn' : Nat} {Q : Option Value → Heap → Prop} {pc pc' pq : Nat} {L L' : Array Slot} {S : List Value} {a0 : Array Value}
/-- what one body's walk keeps throughout -/
def OCx (p : Program) (s : State) (m : MethodId) (meth : Method) (c : Code) (Z : State) (B : ByteArray) (ml : Nat) (own nm : String) (rt : Option FieldType) : Prop :=
  p.tables.exec = Jvm.exec ∧ Z.Warmed39 s.vm ∧ c.code = B ∧ c.maxLocals = ml ∧ s.vm.findClass own = some m.cls ∧ meth.name = nm ∧ meth.sig.returnType = rt ∧ meth.locks = false
/-- where the walk stands: the state T, its heap h, what was made so far -/
def OW (p : Program) (l : Launch) (e : Env) (R : Room) (s : State) (m : MethodId) (args : Array Value) (below : List Frame) (meth : Method) (c : Code) (Z : State) (B : ByteArray) (ml : Nat) (own nm : String) (rt : Option FieldType) (n0 z0 : Nat) (T : State) (h : Heap) (kk nn : Nat) : Prop :=
  OCx p s m meth c Z B ml own nm rt ∧ n0 ≤ z0 ∧ z0 ≤ h.size ∧ T.heap = h ∧ ∃ locs, Stand p l e R s m args below meth c T locs kk nn ∧ Fr n0 locs
/-- what a body leaves: its own word, and that nothing old was written or lost -/
def OQ (Q : Option Value → Heap → Prop) (z0 n0 : Nat) (v : Option Value) (h : Heap) (L : List Loc) : Prop := Q v h ∧ z0 ≤ h.size ∧ Fr n0 L
/-- the run from here ends well -/
def OF (p : Program) (e : Env) (below : List Frame) (n0 z0 : Nat) (EN : Outcome → State → List Loc → Prop) (Q : Option Value → Heap → Prop) (T : State) (f : JFrame) : Prop :=
  ∃ s₂ o, Steps p.tables e below (T.setTop f) s₂ ∧ s₂.status = .running ∧ Ended s₂ below o ∧ ∃ v L, o = .returned v ∧ OQ Q z0 n0 v s₂.heap L ∧ EN o s₂ L
/-- the end as the narrow frame has it -/
def ENn (s : State) (kc ns : Nat) : Outcome → State → List Loc → Prop := fun o t L => FrameEnd s o t L kc ns
theorem OW.here (W : OW p l e R s m args below meth c Z B ml own nm rt n0 z0 T h kk nn) : At T m c below := by obtain ⟨-, -, -, -, _, X, -⟩ := W; exact X.here
theorem OW.hx (W : OW p l e R s m args below meth c Z B ml own nm rt n0 z0 T h kk nn) : p.tables.exec = Jvm.exec := W.1.1
theorem OW.hZ (W : OW p l e R s m args below meth c Z B ml own nm rt n0 z0 T h kk nn) : Z.Warmed39 s.vm := W.1.2.1
theorem OW.by (W : OW p l e R s m args below meth c Z B ml own nm rt n0 z0 T h kk nn) : c.code = B := W.1.2.2.1
theorem OW.hml (W : OW p l e R s m args below meth c Z B ml own nm rt n0 z0 T h kk nn) : c.maxLocals = ml := W.1.2.2.2.1
theorem OW.hown (W : OW p l e R s m args below meth c Z B ml own nm rt n0 z0 T h kk nn) : s.vm.findClass own = some m.cls := W.1.2.2.2.2.1
theorem OW.le (W : OW p l e R s m args below meth c Z B ml own nm rt n0 z0 T h kk nn) : n0 ≤ h.size := Nat.le_trans W.2.1 W.2.2.1
theorem OF.step {T' : State} {f f' : JFrame} (hs : ∀ t, Steps p.tables e below (T'.setTop f') t → Steps p.tables e below (T.setTop f) t) (q : OF p e below n1 z1 EN Q T' f') : OF p e below n1 z1 EN Q T f := by
  obtain ⟨s₂, o, h1, h2⟩ := q
  exact ⟨s₂, o, hs _ h1, h2⟩
theorem OF.cast {f f' : JFrame} (q : f = f') (h : OF p e below n1 z1 EN Q T f') : OF p e below n1 z1 EN Q T f := q ▸ h
theorem o_iloadN {i : Fin 4} {v : Int32} (W : OW p l e R s m args below meth c Z B ml own nm rt n0 z0 T h kk nn) (hd : decode B pc = .ok (.iload_n i, 1)) (hl : L[i.val]? = some (.val (.int v))) (hp : pc + 1 = pc')
    (k1 : OF p e below n1 z1 EN Q T (mkF m pc' L (.int v :: S))) : OF p e below n1 z1 EN Q T (mkF m pc L S) := by
  subst hp; exact OF.step (fun t q => XS.iloadN W.here W.hx rfl (hb W.by hd) hl q) k1
theorem o_iload {i : Nat} {v : Int32} (W : OW p l e R s m args below meth c Z B ml own nm rt n0 z0 T h kk nn) (hd : decode B pc = .ok (.iload i, 2)) (hl : L[i]? = some (.val (.int v))) (hp : pc + 2 = pc')
    (k1 : OF p e below n1 z1 EN Q T (mkF m pc' L (.int v :: S))) : OF p e below n1 z1 EN Q T (mkF m pc L S) := by
  subst hp; exact OF.step (fun t q => XS.iload W.here W.hx rfl (hb W.by hd) hl q) k1
theorem o_lloadN {i : Fin 4} {v : Int64} (W : OW p l e R s m args below meth c Z B ml own nm rt n0 z0 T h kk nn) (hd : decode B pc = .ok (.lload_n i, 1)) (hl : L[i.val]? = some (.val (.long v))) (hp : pc + 1 = pc')
    (k1 : OF p e below n1 z1 EN Q T (mkF m pc' L (.long v :: S))) : OF p e below n1 z1 EN Q T (mkF m pc L S) := by
  subst hp; exact OF.step (fun t q => XS.lloadN W.here W.hx rfl (hb W.by hd) hl q) k1
theorem o_lload {i : Nat} {v : Int64} (W : OW p l e R s m args below meth c Z B ml own nm rt n0 z0 T h kk nn) (hd : decode B pc = .ok (.lload i, 2)) (hl : L[i]? = some (.val (.long v))) (hp : pc + 2 = pc')
    (k1 : OF p e below n1 z1 EN Q T (mkF m pc' L (.long v :: S))) : OF p e below n1 z1 EN Q T (mkF m pc L S) := by
  subst hp; exact OF.step (fun t q => XS.lload W.here W.hx rfl (hb W.by hd) hl q) k1
theorem o_aloadN {i : Fin 4} {v : Value} (W : OW p l e R s m args below meth c Z B ml own nm rt n0 z0 T h kk nn) (hd : decode B pc = .ok (.aload_n i, 1)) (hl : L[i.val]? = some (.val v)) (hv : v.isRef = true) (hp : pc + 1 = pc')
    (k1 : OF p e below n1 z1 EN Q T (mkF m pc' L (v :: S))) : OF p e below n1 z1 EN Q T (mkF m pc L S) := by
  subst hp; exact OF.step (fun t q => XS.aloadN W.here W.hx rfl (hb W.by hd) hl hv q) k1
theorem o_aload {i : Nat} {v : Value} (W : OW p l e R s m args below meth c Z B ml own nm rt n0 z0 T h kk nn) (hd : decode B pc = .ok (.aload i, 2)) (hl : L[i]? = some (.val v)) (hv : v.isRef = true) (hp : pc + 2 = pc')
    (k1 : OF p e below n1 z1 EN Q T (mkF m pc' L (v :: S))) : OF p e below n1 z1 EN Q T (mkF m pc L S) := by
  subst hp; exact OF.step (fun t q => XS.aload W.here W.hx rfl (hb W.by hd) hl hv q) k1
theorem o_istoreN {i : Fin 4} {x : Int32} (W : OW p l e R s m args below meth c Z B ml own nm rt n0 z0 T h kk nn) (hd : decode B pc = .ok (.istore_n i, 1)) (hl : storeLocals L i.val (.int x) = some L') (hp : pc + 1 = pc')
    (k1 : OF p e below n1 z1 EN Q T (mkF m pc' L' S)) : OF p e below n1 z1 EN Q T (mkF m pc L (.int x :: S)) := by
  subst hp; exact OF.step (fun t q => XS.istoreN W.here W.hx rfl (hb W.by hd) rfl hl q) k1
theorem o_istoreNG {i : Fin 4} {x : Int32} {Lf : Int32 → Array Slot} (W : OW p l e R s m args below meth c Z B ml own nm rt n0 z0 T h kk nn) (hd : decode B pc = .ok (.istore_n i, 1)) (hl : storeLocals L i.val (.int x) = some (Lf x)) (hp : pc + 1 = pc')
    (k1 : ∀ v, v = x → OF p e below n1 z1 EN Q T (mkF m pc' (Lf v) S)) : OF p e below n1 z1 EN Q T (mkF m pc L (.int x :: S)) := o_istoreN W hd hl hp (k1 x rfl)
theorem o_istore {i : Nat} {x : Int32} (W : OW p l e R s m args below meth c Z B ml own nm rt n0 z0 T h kk nn) (hd : decode B pc = .ok (.istore i, 2)) (hl : storeLocals L i (.int x) = some L') (hp : pc + 2 = pc')
    (k1 : OF p e below n1 z1 EN Q T (mkF m pc' L' S)) : OF p e below n1 z1 EN Q T (mkF m pc L (.int x :: S)) := by
  subst hp; exact OF.step (fun t q => XS.istore W.here W.hx rfl (hb W.by hd) rfl hl q) k1
theorem o_istoreG {i : Nat} {x : Int32} {Lf : Int32 → Array Slot} (W : OW p l e R s m args below meth c Z B ml own nm rt n0 z0 T h kk nn) (hd : decode B pc = .ok (.istore i, 2)) (hl : storeLocals L i (.int x) = some (Lf x)) (hp : pc + 2 = pc')
    (k1 : ∀ v, v = x → OF p e below n1 z1 EN Q T (mkF m pc' (Lf v) S)) : OF p e below n1 z1 EN Q T (mkF m pc L (.int x :: S)) := o_istore W hd hl hp (k1 x rfl)
theorem o_lstoreN {i : Fin 4} {x : Int64} (W : OW p l e R s m args below meth c Z B ml own nm rt n0 z0 T h kk nn) (hd : decode B pc = .ok (.lstore_n i, 1)) (hl : storeLocals L i.val (.long x) = some L') (hp : pc + 1 = pc')
    (k1 : OF p e below n1 z1 EN Q T (mkF m pc' L' S)) : OF p e below n1 z1 EN Q T (mkF m pc L (.long x :: S)) := by
  subst hp; exact OF.step (fun t q => XS.lstoreN W.here W.hx rfl (hb W.by hd) rfl hl q) k1
theorem o_lstoreNG {i : Fin 4} {x : Int64} {Lf : Int64 → Array Slot} (W : OW p l e R s m args below meth c Z B ml own nm rt n0 z0 T h kk nn) (hd : decode B pc = .ok (.lstore_n i, 1)) (hl : storeLocals L i.val (.long x) = some (Lf x)) (hp : pc + 1 = pc')
    (k1 : ∀ v, v = x → OF p e below n1 z1 EN Q T (mkF m pc' (Lf v) S)) : OF p e below n1 z1 EN Q T (mkF m pc L (.long x :: S)) := o_lstoreN W hd hl hp (k1 x rfl)
theorem o_lstore {i : Nat} {x : Int64} (W : OW p l e R s m args below meth c Z B ml own nm rt n0 z0 T h kk nn) (hd : decode B pc = .ok (.lstore i, 2)) (hl : storeLocals L i (.long x) = some L') (hp : pc + 2 = pc')
    (k1 : OF p e below n1 z1 EN Q T (mkF m pc' L' S)) : OF p e below n1 z1 EN Q T (mkF m pc L (.long x :: S)) := by
  subst hp; exact OF.step (fun t q => XS.lstore W.here W.hx rfl (hb W.by hd) rfl hl q) k1
theorem o_lstoreG {i : Nat} {x : Int64} {Lf : Int64 → Array Slot} (W : OW p l e R s m args below meth c Z B ml own nm rt n0 z0 T h kk nn) (hd : decode B pc = .ok (.lstore i, 2)) (hl : storeLocals L i (.long x) = some (Lf x)) (hp : pc + 2 = pc')
    (k1 : ∀ v, v = x → OF p e below n1 z1 EN Q T (mkF m pc' (Lf v) S)) : OF p e below n1 z1 EN Q T (mkF m pc L (.long x :: S)) := o_lstore W hd hl hp (k1 x rfl)
theorem o_astoreN {i : Fin 4} {x : Value} (W : OW p l e R s m args below meth c Z B ml own nm rt n0 z0 T h kk nn) (hd : decode B pc = .ok (.astore_n i, 1)) (hv : x.isRef = true) (hl : storeLocals L i.val x = some L') (hp : pc + 1 = pc')
    (k1 : OF p e below n1 z1 EN Q T (mkF m pc' L' S)) : OF p e below n1 z1 EN Q T (mkF m pc L (x :: S)) := by
  subst hp; exact OF.step (fun t q => XS.astoreN W.here W.hx rfl (hb W.by hd) rfl hv hl q) k1
theorem o_astore {i : Nat} {x : Value} (W : OW p l e R s m args below meth c Z B ml own nm rt n0 z0 T h kk nn) (hd : decode B pc = .ok (.astore i, 2)) (hv : x.isRef = true) (hl : storeLocals L i x = some L') (hp : pc + 2 = pc')
    (k1 : OF p e below n1 z1 EN Q T (mkF m pc' L' S)) : OF p e below n1 z1 EN Q T (mkF m pc L (x :: S)) := by
  subst hp; exact OF.step (fun t q => XS.astore W.here W.hx rfl (hb W.by hd) rfl hv hl q) k1
theorem o_iconst {i : Int} {v : Int32} (W : OW p l e R s m args below meth c Z B ml own nm rt n0 z0 T h kk nn) (hd : decode B pc = .ok (.iconst i, 1)) (hv : Int32.ofInt i = v) (hp : pc + 1 = pc')
    (k1 : OF p e below n1 z1 EN Q T (mkF m pc' L (.int v :: S))) : OF p e below n1 z1 EN Q T (mkF m pc L S) := by
  subst hp hv; exact OF.step (fun t q => XS.iconst W.here W.hx rfl (hb W.by hd) q) k1
theorem o_bipush {i : Int} {v : Int32} (W : OW p l e R s m args below meth c Z B ml own nm rt n0 z0 T h kk nn) (hd : decode B pc = .ok (.bipush i, 2)) (hv : (Int8.ofInt i).toInt32 = v) (hp : pc + 2 = pc')
    (k1 : OF p e below n1 z1 EN Q T (mkF m pc' L (.int v :: S))) : OF p e below n1 z1 EN Q T (mkF m pc L S) := by
  subst hp hv; exact OF.step (fun t q => XS.bipush W.here W.hx rfl (hb W.by hd) q) k1
theorem o_sipush {i : Int} {v : Int32} (W : OW p l e R s m args below meth c Z B ml own nm rt n0 z0 T h kk nn) (hd : decode B pc = .ok (.sipush i, 3)) (hv : (Int16.ofInt i).toInt32 = v) (hp : pc + 3 = pc')
    (k1 : OF p e below n1 z1 EN Q T (mkF m pc' L (.int v :: S))) : OF p e below n1 z1 EN Q T (mkF m pc L S) := by
  subst hp hv; exact OF.step (fun t q => XS.sipush W.here W.hx rfl (hb W.by hd) q) k1
theorem o_lconst {i : Fin 2} {v : Int64} (W : OW p l e R s m args below meth c Z B ml own nm rt n0 z0 T h kk nn) (hd : decode B pc = .ok (.lconst i, 1)) (hv : Int64.ofNat i = v) (hp : pc + 1 = pc')
    (k1 : OF p e below n1 z1 EN Q T (mkF m pc' L (.long v :: S))) : OF p e below n1 z1 EN Q T (mkF m pc L S) := by
  subst hp hv; exact OF.step (fun t q => XS.lconst W.here W.hx rfl (hb W.by hd) q) k1
theorem o_ldc {i : Nat} {v : Int32} (W : OW p l e R s m args below meth c Z B ml own nm rt n0 z0 T h kk nn) (w : (Jvm.Cond.constant own i v).before a0 Z = true) (hd : decode B pc = .ok (.ldc i, 2)) (hp : pc + 2 = pc')
    (k1 : OF p e below n1 z1 EN Q T (mkF m pc' L (.int v :: S))) : OF p e below n1 z1 EN Q T (mkF m pc L S) := by
  subst hp; obtain ⟨_, X, _⟩ := W.2.2.2.2; exact OF.step (fun t q => X.ldcInt W.hx W.hown (mvT W.hZ w) (g := mkF m pc L S) rfl (hb W.by hd) t q) k1
theorem o_ldc_w {i : Nat} {v : Int32} (W : OW p l e R s m args below meth c Z B ml own nm rt n0 z0 T h kk nn) (w : (Jvm.Cond.constant own i v).before a0 Z = true) (hd : decode B pc = .ok (.ldc_w i, 3)) (hp : pc + 3 = pc')
    (k1 : OF p e below n1 z1 EN Q T (mkF m pc' L (.int v :: S))) : OF p e below n1 z1 EN Q T (mkF m pc L S) := by
  subst hp; obtain ⟨_, X, _⟩ := W.2.2.2.2; exact OF.step (fun t q => X.ldcwInt W.hx W.hown (mvT W.hZ w) (g := mkF m pc L S) rfl (hb W.by hd) t q) k1
theorem o_ldc2_w {i : Nat} {v : Int64} (W : OW p l e R s m args below meth c Z B ml own nm rt n0 z0 T h kk nn) (w : (Jvm.Cond.constantLong own i v).before a0 Z = true) (hd : decode B pc = .ok (.ldc2_w i, 3)) (hp : pc + 3 = pc')
    (k1 : OF p e below n1 z1 EN Q T (mkF m pc' L (.long v :: S))) : OF p e below n1 z1 EN Q T (mkF m pc L S) := by
  subst hp; obtain ⟨_, X, _⟩ := W.2.2.2.2; exact OF.step (fun t q => X.ldc2Long W.hx W.hown (mvT W.hZ w) (g := mkF m pc L S) rfl (hb W.by hd) t q) k1
theorem o_iadd {x y : Int32} (W : OW p l e R s m args below meth c Z B ml own nm rt n0 z0 T h kk nn) (hd : decode B pc = .ok (.iadd, 1)) (hp : pc + 1 = pc')
    (k1 : OF p e below n1 z1 EN Q T (mkF m pc' L (.int (x + y) :: S))) : OF p e below n1 z1 EN Q T (mkF m pc L (.int y :: .int x :: S)) := by
  subst hp; exact OF.step (fun t q => XS.iadd W.here W.hx rfl (hb W.by hd) rfl q) k1
theorem o_isub {x y : Int32} (W : OW p l e R s m args below meth c Z B ml own nm rt n0 z0 T h kk nn) (hd : decode B pc = .ok (.isub, 1)) (hp : pc + 1 = pc')
    (k1 : OF p e below n1 z1 EN Q T (mkF m pc' L (.int (x - y) :: S))) : OF p e below n1 z1 EN Q T (mkF m pc L (.int y :: .int x :: S)) := by
  subst hp; exact OF.step (fun t q => XS.isub W.here W.hx rfl (hb W.by hd) rfl q) k1
theorem o_imul {x y : Int32} (W : OW p l e R s m args below meth c Z B ml own nm rt n0 z0 T h kk nn) (hd : decode B pc = .ok (.imul, 1)) (hp : pc + 1 = pc')
    (k1 : OF p e below n1 z1 EN Q T (mkF m pc' L (.int (x * y) :: S))) : OF p e below n1 z1 EN Q T (mkF m pc L (.int y :: .int x :: S)) := by
  subst hp; exact OF.step (fun t q => XS.imul W.here W.hx rfl (hb W.by hd) rfl q) k1
theorem o_iand {x y : Int32} (W : OW p l e R s m args below meth c Z B ml own nm rt n0 z0 T h kk nn) (hd : decode B pc = .ok (.iand, 1)) (hp : pc + 1 = pc')
    (k1 : OF p e below n1 z1 EN Q T (mkF m pc' L (.int (x &&& y) :: S))) : OF p e below n1 z1 EN Q T (mkF m pc L (.int y :: .int x :: S)) := by
  subst hp; exact OF.step (fun t q => XS.iand W.here W.hx rfl (hb W.by hd) rfl q) k1
theorem o_ior {x y : Int32} (W : OW p l e R s m args below meth c Z B ml own nm rt n0 z0 T h kk nn) (hd : decode B pc = .ok (.ior, 1)) (hp : pc + 1 = pc')
    (k1 : OF p e below n1 z1 EN Q T (mkF m pc' L (.int (x ||| y) :: S))) : OF p e below n1 z1 EN Q T (mkF m pc L (.int y :: .int x :: S)) := by
  subst hp; exact OF.step (fun t q => XS.ior W.here W.hx rfl (hb W.by hd) rfl q) k1
theorem o_ixor {x y : Int32} (W : OW p l e R s m args below meth c Z B ml own nm rt n0 z0 T h kk nn) (hd : decode B pc = .ok (.ixor, 1)) (hp : pc + 1 = pc')
    (k1 : OF p e below n1 z1 EN Q T (mkF m pc' L (.int (x ^^^ y) :: S))) : OF p e below n1 z1 EN Q T (mkF m pc L (.int y :: .int x :: S)) := by
  subst hp; exact OF.step (fun t q => XS.ixor W.here W.hx rfl (hb W.by hd) rfl q) k1
theorem o_ishl {x y : Int32} (W : OW p l e R s m args below meth c Z B ml own nm rt n0 z0 T h kk nn) (hd : decode B pc = .ok (.ishl, 1)) (hp : pc + 1 = pc')
    (k1 : OF p e below n1 z1 EN Q T (mkF m pc' L (.int (x <<< (y &&& 31)) :: S))) : OF p e below n1 z1 EN Q T (mkF m pc L (.int y :: .int x :: S)) := by
  subst hp; exact OF.step (fun t q => XS.ishl W.here W.hx rfl (hb W.by hd) rfl q) k1
theorem o_ishr {x y : Int32} (W : OW p l e R s m args below meth c Z B ml own nm rt n0 z0 T h kk nn) (hd : decode B pc = .ok (.ishr, 1)) (hp : pc + 1 = pc')
    (k1 : OF p e below n1 z1 EN Q T (mkF m pc' L (.int (x >>> (y &&& 31)) :: S))) : OF p e below n1 z1 EN Q T (mkF m pc L (.int y :: .int x :: S)) := by
  subst hp; exact OF.step (fun t q => XS.ishr W.here W.hx rfl (hb W.by hd) rfl q) k1
theorem o_iushr {x y : Int32} (W : OW p l e R s m args below meth c Z B ml own nm rt n0 z0 T h kk nn) (hd : decode B pc = .ok (.iushr, 1)) (hp : pc + 1 = pc')
    (k1 : OF p e below n1 z1 EN Q T (mkF m pc' L (.int ((x.toUInt32 >>> (y &&& 31).toUInt32).toInt32) :: S))) : OF p e below n1 z1 EN Q T (mkF m pc L (.int y :: .int x :: S)) := by
  subst hp; exact OF.step (fun t q => XS.iushr W.here W.hx rfl (hb W.by hd) rfl q) k1
theorem o_idiv {x y : Int32} (W : OW p l e R s m args below meth c Z B ml own nm rt n0 z0 T h kk nn) (hd : decode B pc = .ok (.idiv, 1)) (hy : y ≠ 0) (hp : pc + 1 = pc')
    (k1 : OF p e below n1 z1 EN Q T (mkF m pc' L (.int (x / y) :: S))) : OF p e below n1 z1 EN Q T (mkF m pc L (.int y :: .int x :: S)) := by
  subst hp; exact OF.step (fun t q => XS.idiv W.here W.hx rfl (hb W.by hd) rfl hy q) k1
theorem o_irem {x y : Int32} (W : OW p l e R s m args below meth c Z B ml own nm rt n0 z0 T h kk nn) (hd : decode B pc = .ok (.irem, 1)) (hy : y ≠ 0) (hp : pc + 1 = pc')
    (k1 : OF p e below n1 z1 EN Q T (mkF m pc' L (.int (x - (x / y) * y) :: S))) : OF p e below n1 z1 EN Q T (mkF m pc L (.int y :: .int x :: S)) := by
  subst hp; exact OF.step (fun t q => XS.irem W.here W.hx rfl (hb W.by hd) rfl hy q) k1
theorem o_ladd {x y : Int64} (W : OW p l e R s m args below meth c Z B ml own nm rt n0 z0 T h kk nn) (hd : decode B pc = .ok (.ladd, 1)) (hp : pc + 1 = pc')
    (k1 : OF p e below n1 z1 EN Q T (mkF m pc' L (.long (x + y) :: S))) : OF p e below n1 z1 EN Q T (mkF m pc L (.long y :: .long x :: S)) := by
  subst hp; exact OF.step (fun t q => XS.ladd W.here W.hx rfl (hb W.by hd) rfl q) k1
theorem o_lsub {x y : Int64} (W : OW p l e R s m args below meth c Z B ml own nm rt n0 z0 T h kk nn) (hd : decode B pc = .ok (.lsub, 1)) (hp : pc + 1 = pc')
    (k1 : OF p e below n1 z1 EN Q T (mkF m pc' L (.long (x - y) :: S))) : OF p e below n1 z1 EN Q T (mkF m pc L (.long y :: .long x :: S)) := by
  subst hp; exact OF.step (fun t q => XS.lsub W.here W.hx rfl (hb W.by hd) rfl q) k1
theorem o_lmul {x y : Int64} (W : OW p l e R s m args below meth c Z B ml own nm rt n0 z0 T h kk nn) (hd : decode B pc = .ok (.lmul, 1)) (hp : pc + 1 = pc')
    (k1 : OF p e below n1 z1 EN Q T (mkF m pc' L (.long (x * y) :: S))) : OF p e below n1 z1 EN Q T (mkF m pc L (.long y :: .long x :: S)) := by
  subst hp; exact OF.step (fun t q => XS.lmul W.here W.hx rfl (hb W.by hd) rfl q) k1
theorem o_land {x y : Int64} (W : OW p l e R s m args below meth c Z B ml own nm rt n0 z0 T h kk nn) (hd : decode B pc = .ok (.land, 1)) (hp : pc + 1 = pc')
    (k1 : OF p e below n1 z1 EN Q T (mkF m pc' L (.long (x &&& y) :: S))) : OF p e below n1 z1 EN Q T (mkF m pc L (.long y :: .long x :: S)) := by
  subst hp; exact OF.step (fun t q => XS.land W.here W.hx rfl (hb W.by hd) rfl q) k1
theorem o_lor {x y : Int64} (W : OW p l e R s m args below meth c Z B ml own nm rt n0 z0 T h kk nn) (hd : decode B pc = .ok (.lor, 1)) (hp : pc + 1 = pc')
    (k1 : OF p e below n1 z1 EN Q T (mkF m pc' L (.long (x ||| y) :: S))) : OF p e below n1 z1 EN Q T (mkF m pc L (.long y :: .long x :: S)) := by
  subst hp; exact OF.step (fun t q => XS.lor W.here W.hx rfl (hb W.by hd) rfl q) k1
theorem o_lxor {x y : Int64} (W : OW p l e R s m args below meth c Z B ml own nm rt n0 z0 T h kk nn) (hd : decode B pc = .ok (.lxor, 1)) (hp : pc + 1 = pc')
    (k1 : OF p e below n1 z1 EN Q T (mkF m pc' L (.long (x ^^^ y) :: S))) : OF p e below n1 z1 EN Q T (mkF m pc L (.long y :: .long x :: S)) := by
  subst hp; exact OF.step (fun t q => XS.lxor W.here W.hx rfl (hb W.by hd) rfl q) k1
theorem o_ldiv {x y : Int64} (W : OW p l e R s m args below meth c Z B ml own nm rt n0 z0 T h kk nn) (hd : decode B pc = .ok (.ldiv, 1)) (hy : y ≠ 0) (hp : pc + 1 = pc')
    (k1 : OF p e below n1 z1 EN Q T (mkF m pc' L (.long (x / y) :: S))) : OF p e below n1 z1 EN Q T (mkF m pc L (.long y :: .long x :: S)) := by
  subst hp; exact OF.step (fun t q => XS.ldiv W.here W.hx rfl (hb W.by hd) rfl hy q) k1
theorem o_lrem {x y : Int64} (W : OW p l e R s m args below meth c Z B ml own nm rt n0 z0 T h kk nn) (hd : decode B pc = .ok (.lrem, 1)) (hy : y ≠ 0) (hp : pc + 1 = pc')
    (k1 : OF p e below n1 z1 EN Q T (mkF m pc' L (.long (x - (x / y) * y) :: S))) : OF p e below n1 z1 EN Q T (mkF m pc L (.long y :: .long x :: S)) := by
  subst hp; exact OF.step (fun t q => XS.lrem W.here W.hx rfl (hb W.by hd) rfl hy q) k1
theorem o_lshl {x : Int64} {y : Int32} (W : OW p l e R s m args below meth c Z B ml own nm rt n0 z0 T h kk nn) (hd : decode B pc = .ok (.lshl, 1)) (hp : pc + 1 = pc')
    (k1 : OF p e below n1 z1 EN Q T (mkF m pc' L (.long (x <<< (y &&& 0x3f).toInt64) :: S))) : OF p e below n1 z1 EN Q T (mkF m pc L (.int y :: .long x :: S)) := by
  subst hp; exact OF.step (fun t q => XS.lshl W.here W.hx rfl (hb W.by hd) rfl q) k1
theorem o_lshr {x : Int64} {y : Int32} (W : OW p l e R s m args below meth c Z B ml own nm rt n0 z0 T h kk nn) (hd : decode B pc = .ok (.lshr, 1)) (hp : pc + 1 = pc')
    (k1 : OF p e below n1 z1 EN Q T (mkF m pc' L (.long (x >>> (y &&& 0x3f).toInt64) :: S))) : OF p e below n1 z1 EN Q T (mkF m pc L (.int y :: .long x :: S)) := by
  subst hp; exact OF.step (fun t q => XS.lshr W.here W.hx rfl (hb W.by hd) rfl q) k1
theorem o_lushr {x : Int64} {y : Int32} (W : OW p l e R s m args below meth c Z B ml own nm rt n0 z0 T h kk nn) (hd : decode B pc = .ok (.lushr, 1)) (hp : pc + 1 = pc')
    (k1 : OF p e below n1 z1 EN Q T (mkF m pc' L (.long ((x.toUInt64 >>> (y &&& 0x3f).toInt64.toUInt64).toInt64) :: S))) : OF p e below n1 z1 EN Q T (mkF m pc L (.int y :: .long x :: S)) := by
  subst hp; exact OF.step (fun t q => XS.lushr W.here W.hx rfl (hb W.by hd) rfl q) k1
theorem o_i2b {x : Int32} (W : OW p l e R s m args below meth c Z B ml own nm rt n0 z0 T h kk nn) (hd : decode B pc = .ok (.i2b, 1)) (hp : pc + 1 = pc')
    (k1 : OF p e below n1 z1 EN Q T (mkF m pc' L (.int (x.toInt8.toInt32) :: S))) : OF p e below n1 z1 EN Q T (mkF m pc L (.int x :: S)) := by
  subst hp; exact OF.step (fun t q => XS.i2b W.here W.hx rfl (hb W.by hd) rfl q) k1
theorem o_i2c {x : Int32} (W : OW p l e R s m args below meth c Z B ml own nm rt n0 z0 T h kk nn) (hd : decode B pc = .ok (.i2c, 1)) (hp : pc + 1 = pc')
    (k1 : OF p e below n1 z1 EN Q T (mkF m pc' L (.int (x.toUInt32.toUInt16.toUInt32.toInt32) :: S))) : OF p e below n1 z1 EN Q T (mkF m pc L (.int x :: S)) := by
  subst hp; exact OF.step (fun t q => XS.i2c W.here W.hx rfl (hb W.by hd) rfl q) k1
theorem o_i2s {x : Int32} (W : OW p l e R s m args below meth c Z B ml own nm rt n0 z0 T h kk nn) (hd : decode B pc = .ok (.i2s, 1)) (hp : pc + 1 = pc')
    (k1 : OF p e below n1 z1 EN Q T (mkF m pc' L (.int (x.toInt16.toInt32) :: S))) : OF p e below n1 z1 EN Q T (mkF m pc L (.int x :: S)) := by
  subst hp; exact OF.step (fun t q => XS.i2s W.here W.hx rfl (hb W.by hd) rfl q) k1
theorem o_i2l {x : Int32} (W : OW p l e R s m args below meth c Z B ml own nm rt n0 z0 T h kk nn) (hd : decode B pc = .ok (.i2l, 1)) (hp : pc + 1 = pc')
    (k1 : OF p e below n1 z1 EN Q T (mkF m pc' L (.long (x.toInt64) :: S))) : OF p e below n1 z1 EN Q T (mkF m pc L (.int x :: S)) := by
  subst hp; exact OF.step (fun t q => XS.i2l W.here W.hx rfl (hb W.by hd) rfl q) k1
theorem o_l2i {x : Int64} (W : OW p l e R s m args below meth c Z B ml own nm rt n0 z0 T h kk nn) (hd : decode B pc = .ok (.l2i, 1)) (hp : pc + 1 = pc')
    (k1 : OF p e below n1 z1 EN Q T (mkF m pc' L (.int (x.toInt32) :: S))) : OF p e below n1 z1 EN Q T (mkF m pc L (.long x :: S)) := by
  subst hp; exact OF.step (fun t q => XS.l2i W.here W.hx rfl (hb W.by hd) rfl q) k1
theorem o_dup {x : Value} (W : OW p l e R s m args below meth c Z B ml own nm rt n0 z0 T h kk nn) (hd : decode B pc = .ok (.dup, 1)) (hc : x.category = 1) (hp : pc + 1 = pc')
    (k1 : OF p e below n1 z1 EN Q T (mkF m pc' L (x :: x :: S))) : OF p e below n1 z1 EN Q T (mkF m pc L (x :: S)) := by
  subst hp; exact OF.step (fun t q => XS.dup W.here W.hx rfl (hb W.by hd) rfl hc q) k1
theorem o_pop {x : Value} (W : OW p l e R s m args below meth c Z B ml own nm rt n0 z0 T h kk nn) (hd : decode B pc = .ok (.pop, 1)) (hc : x.category = 1) (hp : pc + 1 = pc')
    (k1 : OF p e below n1 z1 EN Q T (mkF m pc' L S)) : OF p e below n1 z1 EN Q T (mkF m pc L (x :: S)) := by
  subst hp; exact OF.step (fun t q => XS.pop W.here W.hx rfl (hb W.by hd) rfl hc q) k1
theorem o_dup2 {x y : Value} (W : OW p l e R s m args below meth c Z B ml own nm rt n0 z0 T h kk nn) (hd : decode B pc = .ok (.dup2, 1)) (hc : x.category = 1) (hc' : y.category = 1) (hp : pc + 1 = pc')
    (k1 : OF p e below n1 z1 EN Q T (mkF m pc' L (x :: y :: x :: y :: S))) : OF p e below n1 z1 EN Q T (mkF m pc L (x :: y :: S)) := by
  subst hp; exact OF.step (fun t q => XT.dup2 W.here W.hx rfl (hb W.by hd) rfl hc hc' q) k1
theorem o_iinc {i : Nat} {z : Int} {x : Int32} (W : OW p l e R s m args below meth c Z B ml own nm rt n0 z0 T h kk nn) (hd : decode B pc = .ok (.iinc i z, 3)) (hl : L[i]? = some (.val (.int x))) (hl' : storeLocals L i (.int (x + Int32.ofInt z)) = some L') (hp : pc + 3 = pc')
    (k1 : OF p e below n1 z1 EN Q T (mkF m pc' L' S)) : OF p e below n1 z1 EN Q T (mkF m pc L S) := by
  subst hp; exact OF.step (fun t q => XS.iinc W.here W.hx rfl (hb W.by hd) hl hl' q) k1
theorem o_goto {o : Int} (W : OW p l e R s m args below meth c Z B ml own nm rt n0 z0 T h kk nn) (hd : decode B pc = .ok (.goto o, 3)) (ho : 0 ≤ (pc : Int) + o) (hq : ((pc : Int) + o).toNat = pq)
    (k1 : OF p e below n1 z1 EN Q T (mkF m pq L S)) : OF p e below n1 z1 EN Q T (mkF m pc L S) := OF.step (fun t q => XS.goto W.here W.hx rfl rfl (hb W.by hd) ho hq q) k1
theorem o_lt {x y : Int32} (q : x.toInt < y.toInt) : x < y := Int32.lt_iff_toInt_lt.mpr q
theorem o_nlt {x y : Int32} (q : y.toInt ≤ x.toInt) : ¬ x < y := fun z => by rw [Int32.lt_iff_toInt_lt] at z; omega
theorem o_eq {x y : Int32} (q : x.toInt = y.toInt) : x = y := Int32.toInt_inj.mp q
theorem o_ne {x y : Int32} (q : ¬ x.toInt = y.toInt) : ¬ x = y := fun z => q (congrArg Int32.toInt z)
theorem o_zero : (0 : Int32).toInt = 0 := rfl
theorem o_llt {x y : Int64} (q : x.toInt < y.toInt) : x < y := Int64.lt_iff_toInt_lt.mpr q
theorem o_nllt {x y : Int64} (q : y.toInt ≤ x.toInt) : ¬ x < y := fun z => by rw [Int64.lt_iff_toInt_lt] at z; omega
theorem o_leq {x y : Int64} (q : x.toInt = y.toInt) : x = y := Int64.toInt_inj.mp q
theorem o_lne {x y : Int64} (q : ¬ x.toInt = y.toInt) : ¬ x = y := fun z => q (congrArg Int64.toInt z)
theorem o_icmp_lt {x y : Int32} {o : Int} (W : OW p l e R s m args below meth c Z B ml own nm rt n0 z0 T h kk nn) (hd : decode B pc = .ok (.if_icmp .lt o, 3)) (ho : 0 ≤ (pc : Int) + o) (hq : ((pc : Int) + o).toNat = pq) (hp : pc + 3 = pc')
    (ky : x.toInt < y.toInt → OF p e below n1 z1 EN Q T (mkF m pq L S)) (kn : y.toInt ≤ x.toInt → OF p e below n1 z1 EN Q T (mkF m pc' L S)) : OF p e below n1 z1 EN Q T (mkF m pc L (.int y :: .int x :: S)) := by
  subst hp
  rcases Int.lt_or_le (x.toInt) (y.toInt) with q | q
  · exact OF.step (fun t z => XS.icmpYes W.here W.hx rfl rfl (hb W.by hd) rfl (tlt (o_lt q)).1 ho hq z) (ky q)
  · exact OF.step (fun t z => XS.icmpNo W.here W.hx rfl (hb W.by hd) rfl (flt (o_nlt q)).1 z) (kn q)
theorem o_icmp_ge {x y : Int32} {o : Int} (W : OW p l e R s m args below meth c Z B ml own nm rt n0 z0 T h kk nn) (hd : decode B pc = .ok (.if_icmp .ge o, 3)) (ho : 0 ≤ (pc : Int) + o) (hq : ((pc : Int) + o).toNat = pq) (hp : pc + 3 = pc')
    (ky : y.toInt ≤ x.toInt → OF p e below n1 z1 EN Q T (mkF m pq L S)) (kn : x.toInt < y.toInt → OF p e below n1 z1 EN Q T (mkF m pc' L S)) : OF p e below n1 z1 EN Q T (mkF m pc L (.int y :: .int x :: S)) := by
  subst hp
  rcases (Int.lt_or_le (x.toInt) (y.toInt)).symm with q | q
  · exact OF.step (fun t z => XS.icmpYes W.here W.hx rfl rfl (hb W.by hd) rfl (flt (o_nlt q)).2.1 ho hq z) (ky q)
  · exact OF.step (fun t z => XS.icmpNo W.here W.hx rfl (hb W.by hd) rfl (tlt (o_lt q)).2.1 z) (kn q)
theorem o_icmp_gt {x y : Int32} {o : Int} (W : OW p l e R s m args below meth c Z B ml own nm rt n0 z0 T h kk nn) (hd : decode B pc = .ok (.if_icmp .gt o, 3)) (ho : 0 ≤ (pc : Int) + o) (hq : ((pc : Int) + o).toNat = pq) (hp : pc + 3 = pc')
    (ky : y.toInt < x.toInt → OF p e below n1 z1 EN Q T (mkF m pq L S)) (kn : x.toInt ≤ y.toInt → OF p e below n1 z1 EN Q T (mkF m pc' L S)) : OF p e below n1 z1 EN Q T (mkF m pc L (.int y :: .int x :: S)) := by
  subst hp
  rcases Int.lt_or_le (y.toInt) (x.toInt) with q | q
  · exact OF.step (fun t z => XS.icmpYes W.here W.hx rfl rfl (hb W.by hd) rfl (tlt (o_lt q)).2.2.1 ho hq z) (ky q)
  · exact OF.step (fun t z => XS.icmpNo W.here W.hx rfl (hb W.by hd) rfl (flt (o_nlt q)).2.2.1 z) (kn q)
theorem o_icmp_le {x y : Int32} {o : Int} (W : OW p l e R s m args below meth c Z B ml own nm rt n0 z0 T h kk nn) (hd : decode B pc = .ok (.if_icmp .le o, 3)) (ho : 0 ≤ (pc : Int) + o) (hq : ((pc : Int) + o).toNat = pq) (hp : pc + 3 = pc')
    (ky : x.toInt ≤ y.toInt → OF p e below n1 z1 EN Q T (mkF m pq L S)) (kn : y.toInt < x.toInt → OF p e below n1 z1 EN Q T (mkF m pc' L S)) : OF p e below n1 z1 EN Q T (mkF m pc L (.int y :: .int x :: S)) := by
  subst hp
  rcases (Int.lt_or_le (y.toInt) (x.toInt)).symm with q | q
  · exact OF.step (fun t z => XS.icmpYes W.here W.hx rfl rfl (hb W.by hd) rfl (flt (o_nlt q)).2.2.2 ho hq z) (ky q)
  · exact OF.step (fun t z => XS.icmpNo W.here W.hx rfl (hb W.by hd) rfl (tlt (o_lt q)).2.2.2 z) (kn q)
theorem o_icmp_eq {x y : Int32} {o : Int} (W : OW p l e R s m args below meth c Z B ml own nm rt n0 z0 T h kk nn) (hd : decode B pc = .ok (.if_icmp .eq o, 3)) (ho : 0 ≤ (pc : Int) + o) (hq : ((pc : Int) + o).toNat = pq) (hp : pc + 3 = pc')
    (ky : x.toInt = y.toInt → OF p e below n1 z1 EN Q T (mkF m pq L S)) (kn : ¬ x.toInt = y.toInt → OF p e below n1 z1 EN Q T (mkF m pc' L S)) : OF p e below n1 z1 EN Q T (mkF m pc L (.int y :: .int x :: S)) := by
  subst hp
  rcases Decidable.em (x.toInt = y.toInt) with q | q
  · exact OF.step (fun t z => XS.icmpYes W.here W.hx rfl rfl (hb W.by hd) rfl (teq (o_eq q)).1 ho hq z) (ky q)
  · exact OF.step (fun t z => XS.icmpNo W.here W.hx rfl (hb W.by hd) rfl (feq (o_ne q)).1 z) (kn q)
theorem o_icmp_ne {x y : Int32} {o : Int} (W : OW p l e R s m args below meth c Z B ml own nm rt n0 z0 T h kk nn) (hd : decode B pc = .ok (.if_icmp .ne o, 3)) (ho : 0 ≤ (pc : Int) + o) (hq : ((pc : Int) + o).toNat = pq) (hp : pc + 3 = pc')
    (ky : ¬ x.toInt = y.toInt → OF p e below n1 z1 EN Q T (mkF m pq L S)) (kn : x.toInt = y.toInt → OF p e below n1 z1 EN Q T (mkF m pc' L S)) : OF p e below n1 z1 EN Q T (mkF m pc L (.int y :: .int x :: S)) := by
  subst hp
  rcases (Decidable.em (x.toInt = y.toInt)).symm with q | q
  · exact OF.step (fun t z => XS.icmpYes W.here W.hx rfl rfl (hb W.by hd) rfl (feq (o_ne q)).2 ho hq z) (ky q)
  · exact OF.step (fun t z => XS.icmpNo W.here W.hx rfl (hb W.by hd) rfl (teq (o_eq q)).2 z) (kn q)
theorem o_if_lt {x : Int32} {o : Int} (W : OW p l e R s m args below meth c Z B ml own nm rt n0 z0 T h kk nn) (hd : decode B pc = .ok (.ifCond .lt o, 3)) (ho : 0 ≤ (pc : Int) + o) (hq : ((pc : Int) + o).toNat = pq) (hp : pc + 3 = pc')
    (ky : x.toInt < 0 → OF p e below n1 z1 EN Q T (mkF m pq L S)) (kn : 0 ≤ x.toInt → OF p e below n1 z1 EN Q T (mkF m pc' L S)) : OF p e below n1 z1 EN Q T (mkF m pc L (.int x :: S)) := by
  subst hp
  rcases Int.lt_or_le (x.toInt) (0) with q | q
  · exact OF.step (fun t z => XS.ifYes W.here W.hx rfl rfl (hb W.by hd) rfl ((if0 _ _).trans (tlt (o_lt (x := x) (y := 0) q)).1) ho hq z) (ky q)
  · exact OF.step (fun t z => XS.ifNo W.here W.hx rfl (hb W.by hd) rfl ((if0 _ _).trans (flt (o_nlt (x := x) (y := 0) q)).1) z) (kn q)
theorem o_if_ge {x : Int32} {o : Int} (W : OW p l e R s m args below meth c Z B ml own nm rt n0 z0 T h kk nn) (hd : decode B pc = .ok (.ifCond .ge o, 3)) (ho : 0 ≤ (pc : Int) + o) (hq : ((pc : Int) + o).toNat = pq) (hp : pc + 3 = pc')
    (ky : 0 ≤ x.toInt → OF p e below n1 z1 EN Q T (mkF m pq L S)) (kn : x.toInt < 0 → OF p e below n1 z1 EN Q T (mkF m pc' L S)) : OF p e below n1 z1 EN Q T (mkF m pc L (.int x :: S)) := by
  subst hp
  rcases (Int.lt_or_le (x.toInt) (0)).symm with q | q
  · exact OF.step (fun t z => XS.ifYes W.here W.hx rfl rfl (hb W.by hd) rfl ((if0 _ _).trans (flt (o_nlt (x := x) (y := 0) q)).2.1) ho hq z) (ky q)
  · exact OF.step (fun t z => XS.ifNo W.here W.hx rfl (hb W.by hd) rfl ((if0 _ _).trans (tlt (o_lt (x := x) (y := 0) q)).2.1) z) (kn q)
theorem o_if_gt {x : Int32} {o : Int} (W : OW p l e R s m args below meth c Z B ml own nm rt n0 z0 T h kk nn) (hd : decode B pc = .ok (.ifCond .gt o, 3)) (ho : 0 ≤ (pc : Int) + o) (hq : ((pc : Int) + o).toNat = pq) (hp : pc + 3 = pc')
    (ky : 0 < x.toInt → OF p e below n1 z1 EN Q T (mkF m pq L S)) (kn : x.toInt ≤ 0 → OF p e below n1 z1 EN Q T (mkF m pc' L S)) : OF p e below n1 z1 EN Q T (mkF m pc L (.int x :: S)) := by
  subst hp
  rcases Int.lt_or_le (0) (x.toInt) with q | q
  · exact OF.step (fun t z => XS.ifYes W.here W.hx rfl rfl (hb W.by hd) rfl ((if0 _ _).trans (tlt (o_lt (x := 0) (y := x) q)).2.2.1) ho hq z) (ky q)
  · exact OF.step (fun t z => XS.ifNo W.here W.hx rfl (hb W.by hd) rfl ((if0 _ _).trans (flt (o_nlt (x := 0) (y := x) q)).2.2.1) z) (kn q)
theorem o_if_le {x : Int32} {o : Int} (W : OW p l e R s m args below meth c Z B ml own nm rt n0 z0 T h kk nn) (hd : decode B pc = .ok (.ifCond .le o, 3)) (ho : 0 ≤ (pc : Int) + o) (hq : ((pc : Int) + o).toNat = pq) (hp : pc + 3 = pc')
    (ky : x.toInt ≤ 0 → OF p e below n1 z1 EN Q T (mkF m pq L S)) (kn : 0 < x.toInt → OF p e below n1 z1 EN Q T (mkF m pc' L S)) : OF p e below n1 z1 EN Q T (mkF m pc L (.int x :: S)) := by
  subst hp
  rcases (Int.lt_or_le (0) (x.toInt)).symm with q | q
  · exact OF.step (fun t z => XS.ifYes W.here W.hx rfl rfl (hb W.by hd) rfl ((if0 _ _).trans (flt (o_nlt (x := 0) (y := x) q)).2.2.2) ho hq z) (ky q)
  · exact OF.step (fun t z => XS.ifNo W.here W.hx rfl (hb W.by hd) rfl ((if0 _ _).trans (tlt (o_lt (x := 0) (y := x) q)).2.2.2) z) (kn q)
theorem o_if_eq {x : Int32} {o : Int} (W : OW p l e R s m args below meth c Z B ml own nm rt n0 z0 T h kk nn) (hd : decode B pc = .ok (.ifCond .eq o, 3)) (ho : 0 ≤ (pc : Int) + o) (hq : ((pc : Int) + o).toNat = pq) (hp : pc + 3 = pc')
    (ky : x.toInt = 0 → OF p e below n1 z1 EN Q T (mkF m pq L S)) (kn : ¬ x.toInt = 0 → OF p e below n1 z1 EN Q T (mkF m pc' L S)) : OF p e below n1 z1 EN Q T (mkF m pc L (.int x :: S)) := by
  subst hp
  rcases Decidable.em (x.toInt = 0) with q | q
  · exact OF.step (fun t z => XS.ifYes W.here W.hx rfl rfl (hb W.by hd) rfl ((if0 _ _).trans (teq (o_eq (x := x) (y := 0) q)).1) ho hq z) (ky q)
  · exact OF.step (fun t z => XS.ifNo W.here W.hx rfl (hb W.by hd) rfl ((if0 _ _).trans (feq (o_ne (x := x) (y := 0) q)).1) z) (kn q)
theorem o_if_ne {x : Int32} {o : Int} (W : OW p l e R s m args below meth c Z B ml own nm rt n0 z0 T h kk nn) (hd : decode B pc = .ok (.ifCond .ne o, 3)) (ho : 0 ≤ (pc : Int) + o) (hq : ((pc : Int) + o).toNat = pq) (hp : pc + 3 = pc')
    (ky : ¬ x.toInt = 0 → OF p e below n1 z1 EN Q T (mkF m pq L S)) (kn : x.toInt = 0 → OF p e below n1 z1 EN Q T (mkF m pc' L S)) : OF p e below n1 z1 EN Q T (mkF m pc L (.int x :: S)) := by
  subst hp
  rcases (Decidable.em (x.toInt = 0)).symm with q | q
  · exact OF.step (fun t z => XS.ifYes W.here W.hx rfl rfl (hb W.by hd) rfl ((if0 _ _).trans (feq (o_ne (x := x) (y := 0) q)).2) ho hq z) (ky q)
  · exact OF.step (fun t z => XS.ifNo W.here W.hx rfl (hb W.by hd) rfl ((if0 _ _).trans (teq (o_eq (x := x) (y := 0) q)).2) z) (kn q)
theorem o_lcmp_lt {x y : Int64} {o : Int} {pc1 : Nat} (W : OW p l e R s m args below meth c Z B ml own nm rt n0 z0 T h kk nn) (hd : decode B pc = .ok (.lcmp, 1)) (h1 : pc + 1 = pc1) (hd2 : decode B pc1 = .ok (.ifCond .lt o, 3)) (ho : 0 ≤ (pc1 : Int) + o) (hq : ((pc1 : Int) + o).toNat = pq) (hp : pc1 + 3 = pc')
    (ky : x.toInt < y.toInt → OF p e below n1 z1 EN Q T (mkF m pq L S)) (kn : y.toInt ≤ x.toInt → OF p e below n1 z1 EN Q T (mkF m pc' L S)) : OF p e below n1 z1 EN Q T (mkF m pc L (.long y :: .long x :: S)) := by
  subst h1; subst hp
  refine OF.step (T' := T) (f' := mkF m (pc + 1) L (.int (lcmpW x y) :: S)) (fun t z => XS.lcmp W.here W.hx rfl (hb W.by hd) rfl z) ?_
  rcases Int.lt_or_le (x.toInt) (y.toInt) with q | q
  · exact OF.step (fun t z => XS.ifYes W.here W.hx rfl rfl (hb W.by hd2) rfl ((if0 _ _).trans (tlt ((lw_lt x y).mpr (o_llt q))).1) ho hq z) (ky q)
  · exact OF.step (fun t z => XS.ifNo W.here W.hx rfl (hb W.by hd2) rfl ((if0 _ _).trans (flt (fun z => o_nllt q ((lw_lt x y).mp z))).1) z) (kn q)
theorem o_lcmp_ge {x y : Int64} {o : Int} {pc1 : Nat} (W : OW p l e R s m args below meth c Z B ml own nm rt n0 z0 T h kk nn) (hd : decode B pc = .ok (.lcmp, 1)) (h1 : pc + 1 = pc1) (hd2 : decode B pc1 = .ok (.ifCond .ge o, 3)) (ho : 0 ≤ (pc1 : Int) + o) (hq : ((pc1 : Int) + o).toNat = pq) (hp : pc1 + 3 = pc')
    (ky : y.toInt ≤ x.toInt → OF p e below n1 z1 EN Q T (mkF m pq L S)) (kn : x.toInt < y.toInt → OF p e below n1 z1 EN Q T (mkF m pc' L S)) : OF p e below n1 z1 EN Q T (mkF m pc L (.long y :: .long x :: S)) := by
  subst h1; subst hp
  refine OF.step (T' := T) (f' := mkF m (pc + 1) L (.int (lcmpW x y) :: S)) (fun t z => XS.lcmp W.here W.hx rfl (hb W.by hd) rfl z) ?_
  rcases (Int.lt_or_le (x.toInt) (y.toInt)).symm with q | q
  · exact OF.step (fun t z => XS.ifYes W.here W.hx rfl rfl (hb W.by hd2) rfl ((if0 _ _).trans (flt (fun z => o_nllt q ((lw_lt x y).mp z))).2.1) ho hq z) (ky q)
  · exact OF.step (fun t z => XS.ifNo W.here W.hx rfl (hb W.by hd2) rfl ((if0 _ _).trans (tlt ((lw_lt x y).mpr (o_llt q))).2.1) z) (kn q)
theorem o_lcmp_gt {x y : Int64} {o : Int} {pc1 : Nat} (W : OW p l e R s m args below meth c Z B ml own nm rt n0 z0 T h kk nn) (hd : decode B pc = .ok (.lcmp, 1)) (h1 : pc + 1 = pc1) (hd2 : decode B pc1 = .ok (.ifCond .gt o, 3)) (ho : 0 ≤ (pc1 : Int) + o) (hq : ((pc1 : Int) + o).toNat = pq) (hp : pc1 + 3 = pc')
    (ky : y.toInt < x.toInt → OF p e below n1 z1 EN Q T (mkF m pq L S)) (kn : x.toInt ≤ y.toInt → OF p e below n1 z1 EN Q T (mkF m pc' L S)) : OF p e below n1 z1 EN Q T (mkF m pc L (.long y :: .long x :: S)) := by
  subst h1; subst hp
  refine OF.step (T' := T) (f' := mkF m (pc + 1) L (.int (lcmpW x y) :: S)) (fun t z => XS.lcmp W.here W.hx rfl (hb W.by hd) rfl z) ?_
  rcases Int.lt_or_le (y.toInt) (x.toInt) with q | q
  · exact OF.step (fun t z => XS.ifYes W.here W.hx rfl rfl (hb W.by hd2) rfl ((if0 _ _).trans (tlt ((lw_gt x y).mpr (o_llt q))).2.2.1) ho hq z) (ky q)
  · exact OF.step (fun t z => XS.ifNo W.here W.hx rfl (hb W.by hd2) rfl ((if0 _ _).trans (flt (fun z => o_nllt q ((lw_gt x y).mp z))).2.2.1) z) (kn q)
theorem o_lcmp_le {x y : Int64} {o : Int} {pc1 : Nat} (W : OW p l e R s m args below meth c Z B ml own nm rt n0 z0 T h kk nn) (hd : decode B pc = .ok (.lcmp, 1)) (h1 : pc + 1 = pc1) (hd2 : decode B pc1 = .ok (.ifCond .le o, 3)) (ho : 0 ≤ (pc1 : Int) + o) (hq : ((pc1 : Int) + o).toNat = pq) (hp : pc1 + 3 = pc')
    (ky : x.toInt ≤ y.toInt → OF p e below n1 z1 EN Q T (mkF m pq L S)) (kn : y.toInt < x.toInt → OF p e below n1 z1 EN Q T (mkF m pc' L S)) : OF p e below n1 z1 EN Q T (mkF m pc L (.long y :: .long x :: S)) := by
  subst h1; subst hp
  refine OF.step (T' := T) (f' := mkF m (pc + 1) L (.int (lcmpW x y) :: S)) (fun t z => XS.lcmp W.here W.hx rfl (hb W.by hd) rfl z) ?_
  rcases (Int.lt_or_le (y.toInt) (x.toInt)).symm with q | q
  · exact OF.step (fun t z => XS.ifYes W.here W.hx rfl rfl (hb W.by hd2) rfl ((if0 _ _).trans (flt (fun z => o_nllt q ((lw_gt x y).mp z))).2.2.2) ho hq z) (ky q)
  · exact OF.step (fun t z => XS.ifNo W.here W.hx rfl (hb W.by hd2) rfl ((if0 _ _).trans (tlt ((lw_gt x y).mpr (o_llt q))).2.2.2) z) (kn q)
theorem o_lcmp_eq {x y : Int64} {o : Int} {pc1 : Nat} (W : OW p l e R s m args below meth c Z B ml own nm rt n0 z0 T h kk nn) (hd : decode B pc = .ok (.lcmp, 1)) (h1 : pc + 1 = pc1) (hd2 : decode B pc1 = .ok (.ifCond .eq o, 3)) (ho : 0 ≤ (pc1 : Int) + o) (hq : ((pc1 : Int) + o).toNat = pq) (hp : pc1 + 3 = pc')
    (ky : x.toInt = y.toInt → OF p e below n1 z1 EN Q T (mkF m pq L S)) (kn : ¬ x.toInt = y.toInt → OF p e below n1 z1 EN Q T (mkF m pc' L S)) : OF p e below n1 z1 EN Q T (mkF m pc L (.long y :: .long x :: S)) := by
  subst h1; subst hp
  refine OF.step (T' := T) (f' := mkF m (pc + 1) L (.int (lcmpW x y) :: S)) (fun t z => XS.lcmp W.here W.hx rfl (hb W.by hd) rfl z) ?_
  rcases Decidable.em (x.toInt = y.toInt) with q | q
  · exact OF.step (fun t z => XS.ifYes W.here W.hx rfl rfl (hb W.by hd2) rfl ((if0 _ _).trans (teq ((lw_eq x y).mpr (o_leq q))).1) ho hq z) (ky q)
  · exact OF.step (fun t z => XS.ifNo W.here W.hx rfl (hb W.by hd2) rfl ((if0 _ _).trans (feq (fun z => o_lne q ((lw_eq x y).mp z))).1) z) (kn q)
theorem o_lcmp_ne {x y : Int64} {o : Int} {pc1 : Nat} (W : OW p l e R s m args below meth c Z B ml own nm rt n0 z0 T h kk nn) (hd : decode B pc = .ok (.lcmp, 1)) (h1 : pc + 1 = pc1) (hd2 : decode B pc1 = .ok (.ifCond .ne o, 3)) (ho : 0 ≤ (pc1 : Int) + o) (hq : ((pc1 : Int) + o).toNat = pq) (hp : pc1 + 3 = pc')
    (ky : ¬ x.toInt = y.toInt → OF p e below n1 z1 EN Q T (mkF m pq L S)) (kn : x.toInt = y.toInt → OF p e below n1 z1 EN Q T (mkF m pc' L S)) : OF p e below n1 z1 EN Q T (mkF m pc L (.long y :: .long x :: S)) := by
  subst h1; subst hp
  refine OF.step (T' := T) (f' := mkF m (pc + 1) L (.int (lcmpW x y) :: S)) (fun t z => XS.lcmp W.here W.hx rfl (hb W.by hd) rfl z) ?_
  rcases (Decidable.em (x.toInt = y.toInt)).symm with q | q
  · exact OF.step (fun t z => XS.ifYes W.here W.hx rfl rfl (hb W.by hd2) rfl ((if0 _ _).trans (feq (fun z => o_lne q ((lw_eq x y).mp z))).2) ho hq z) (ky q)
  · exact OF.step (fun t z => XS.ifNo W.here W.hx rfl (hb W.by hd2) rfl ((if0 _ _).trans (teq ((lw_eq x y).mpr (o_leq q))).2) z) (kn q)
abbrev QI (P : Int32 → Heap → Prop) : Option Value → Heap → Prop := fun v h => ∃ r, v = some (.int r) ∧ P r h
abbrev QJ (P : Int64 → Heap → Prop) : Option Value → Heap → Prop := fun v h => ∃ r, v = some (.long r) ∧ P r h
abbrev QA (P : Addr → Heap → Prop) : Option Value → Heap → Prop := fun v h => ∃ r, v = some (.ref r) ∧ P r h
abbrev QV (P : Heap → Prop) : Option Value → Heap → Prop := fun v h => v = none ∧ P h
theorem o_retN {t : FieldType} {z : Int32} (W : OW p l e R s m args below meth c Z B ml own nm rt n0 z0 T h kk nn) (hrt : rt = some t) (ht : t = .boolean ∨ t = .byte ∨ t = .char ∨ t = .short) (hd : decode B pc = .ok (.ireturn, 1)) (hk : kk ≤ kc) (hn : nn ≤ ns) (hQ : Q (some (.int (nar t z))) h) :
    OF p e below n0 z0 (ENn s kc ns) Q T (mkF m pc L (.int z :: S)) := by
  obtain ⟨⟨hx, hZ, hby, hml, hown, hnm, hr, hlk⟩, hz, hz', rfl, locs, X, N⟩ := W
  subst hrt
  obtain ⟨fs, hl, h1, h2, h3, h4⟩ := X.leave (v := some (.int (nar t z))) (fun q => by rw [hr] at q; cases q) hlk
  exact ⟨_, _, retN X hx hr ht (hb hby hd) hl, h1, h2, _, _, rfl, ⟨hQ, hz', N⟩, ⟨_, rfl⟩, h3, h4.mono hk hn⟩
theorem o_retI {z : Int32} (W : OW p l e R s m args below meth c Z B ml own nm rt n0 z0 T h kk nn) (hrt : rt = some .int) (hd : decode B pc = .ok (.ireturn, 1)) (hk : kk ≤ kc) (hn : nn ≤ ns) (hQ : Q (some (.int z)) h) :
    OF p e below n0 z0 (ENn s kc ns) Q T (mkF m pc L (.int z :: S)) := by
  obtain ⟨⟨hx, hZ, hby, hml, hown, hnm, hr, hlk⟩, hz, hz', rfl, locs, X, N⟩ := W
  subst hrt
  obtain ⟨fs, hl, h1, h2, h3, h4⟩ := X.leave (v := some (.int z)) (fun q => by rw [hr] at q; cases q) hlk
  exact ⟨_, _, retOut X hx hr rfl (Or.inl ⟨rfl, Or.inl rfl, _, rfl⟩) (hb hby hd) hl, h1, h2, _, _, rfl, ⟨hQ, hz', N⟩, ⟨_, rfl⟩, h3, h4.mono hk hn⟩
theorem o_retJ {z : Int64} (W : OW p l e R s m args below meth c Z B ml own nm rt n0 z0 T h kk nn) (hrt : rt = some .long) (hd : decode B pc = .ok (.lreturn, 1)) (hk : kk ≤ kc) (hn : nn ≤ ns) (hQ : Q (some (.long z)) h) :
    OF p e below n0 z0 (ENn s kc ns) Q T (mkF m pc L (.long z :: S)) := by
  obtain ⟨⟨hx, hZ, hby, hml, hown, hnm, hr, hlk⟩, hz, hz', rfl, locs, X, N⟩ := W
  subst hrt
  obtain ⟨fs, hl, h1, h2, h3, h4⟩ := X.leave (v := some (.long z)) (fun q => by rw [hr] at q; cases q) hlk
  exact ⟨_, _, retOut X hx hr rfl (Or.inr (Or.inl ⟨rfl, rfl, _, rfl⟩)) (hb hby hd) hl, h1, h2, _, _, rfl, ⟨hQ, hz', N⟩, ⟨_, rfl⟩, h3, h4.mono hk hn⟩
theorem o_retA {t : FieldType} {z : Value} (W : OW p l e R s m args below meth c Z B ml own nm rt n0 z0 T h kk nn) (hrt : rt = some t) (ht : t.isReference = true) (hv : z.isRef = true) (hnz : narrow t z = z) (hd : decode B pc = .ok (.areturn, 1)) (hk : kk ≤ kc) (hn : nn ≤ ns) (hQ : Q (some z) h) :
    OF p e below n0 z0 (ENn s kc ns) Q T (mkF m pc L (z :: S)) := by
  obtain ⟨⟨hx, hZ, hby, hml, hown, hnm, hr, hlk⟩, hz, hz', rfl, locs, X, N⟩ := W
  subst hrt
  obtain ⟨fs, hl, h1, h2, h3, h4⟩ := X.leave (v := some z) (fun q => by rw [hr] at q; cases q) hlk
  exact ⟨_, _, retOut X hx hr hnz (Or.inr (Or.inr (Or.inr (Or.inr ⟨rfl, ht, hv⟩)))) (hb hby hd) hl, h1, h2, _, _, rfl, ⟨hQ, hz', N⟩, ⟨_, rfl⟩, h3, h4.mono hk hn⟩
theorem o_retV (W : OW p l e R s m args below meth c Z B ml own nm rt n0 z0 T h kk nn) (hrt : rt = none) (hd : decode B pc = .ok (.return_, 1)) (hk : kk ≤ kc) (hn : nn ≤ ns) (hQ : Q none h) :
    OF p e below n0 z0 (ENn s kc ns) Q T (mkF m pc L []) := by
  obtain ⟨⟨hx, hZ, hby, hml, hown, hnm, hr, hlk⟩, hz, hz', rfl, locs, X, N⟩ := W
  subst hrt
  obtain ⟨fs, hl, h1, h2, h3, h4⟩ := X.leave (v := none) (fun _ => rfl) hlk
  exact ⟨_, _, X.returnOut hx hr (hb hby hd) hl, h1, h2, _, _, rfl, ⟨hQ, hz', N⟩, ⟨_, rfl⟩, h3, h4.mono hk hn⟩
/-- a body's contract: called with 'as' at the heap h0 it returns what Q says -/
def OCon (l : Launch) (Z : State) (y : MethodName) (B : ByteArray) (ml : Nat) (rt : Option FieldType) (ws : List Jvm.Cond) (rm : Room) (as : Array Value) (h0 : Heap) (n0 : Nat) (Q : Option Value → Heap → Prop) : Prop :=
  MetFree l y (head1 (Jvm.Cond.code y B ml rt :: ws) rm) (fun a U => a = as ∧ Z.Warmed39 U.vm ∧ U.heap = h0) (fun _ _ _ _ _ => True)
    (fun _ U o U' => ∃ v L, o = .returned v ∧ OQ Q h0.size n0 v U'.heap L ∧ FrameEnd U o U' L rm.cells rm.slots)
theorem OCon.mk {y : MethodName} {ws : List Jvm.Cond} {rm : Room} {as : Array Value} {h0 : Heap} (hpl : plainFor y = true) (hz : n0 ≤ h0.size)
    (body : ∀ (p : Program) (e : Env) (s : State) (m : MethodId) (below : List Frame) (meth : Method) (c : Code) (s₁ : State), OW p l e rm s m as below meth c Z B ml y.cls y.name rt n0 h0.size s₁ h0 0 0 → OF p e below n0 h0.size (ENn s rm.cells rm.slots) Q s₁ (entryFrame m as ml)) :
    OCon l Z y B ml rt ws rm as h0 n0 Q := by
  refine MetFree.of_bodySF hpl hisR ?_
  intro p e s m args below meth c s₁ Bd hml0 hP hK
  obtain ⟨rfl, hZ, hh⟩ := hP
  exact body p e s m below meth c s₁ ⟨⟨Bd.exec, hZ, Bd.bytes, hml0, findClass_of_methodNamed Bd.named, (name_of_methodNamed Bd.named Bd.method).1, Bd.returns, Bd.notSynchronized⟩, hz, Nat.le_refl _, by rw [← hh, Bd.state]; rfl, [], Stand.of_body Bd, Fr.nil _⟩
theorem o_callS {index : Nat} {y : MethodName} {B' : ByteArray} {ml' wt : Nat} {rt' : Option FieldType} {rm : Room} {as : Array Value} {Q' : Option Value → Heap → Prop} {argsL : List Value} {st : List Value} (W : OW p l e R s m args below meth c Z B ml own nm rt n0 z0 T h kk nn)
    (C : OCon l Z y B' ml' rt' [] rm as h n0 Q') (w1 : (Jvm.Cond.methodLink own index y).before a0 Z = true) (w2 : (Jvm.Cond.static y).before a0 Z = true) (w3 : (Jvm.Cond.initialized y.cls).before a0 Z = true) (w4 : (Jvm.Cond.code y B' ml' rt').before a0 Z = true)
    (hy : y.cls ≠ "java/lang/invoke/MethodHandle" ∧ y.cls ≠ "java/lang/invoke/VarHandle") (hlen : ∀ sig, parseMethodDescriptor y.desc = some sig → argsL.length = sig.parameters.length) (has : argsL.toArray = as) (hst : st = argsL.reverse ++ S) (hL : L.size = ml)
    (hwt : (S.map fun v => v.category).sum = wt) (hfr : rm.frames + 1 ≤ R.frames) (hlo : wt + (ml' + 11) + rm.locals ≤ R.locals) (hcl : kk + rm.cells ≤ R.cells) (hsl : nn + rm.slots ≤ R.slots) (hk' : kk + rm.cells = kk') (hn' : nn + rm.slots = nn')
    (hd : decode B pc = .ok (.invokestatic index, 3)) (hp : pc + 3 = pc')
    (k1 : ∀ v T' h', OW p l e R s m args below meth c Z B ml own nm rt n0 z0 T' h' kk' nn' → Q' v h' → h.size ≤ h'.size → OF p e below n1 z1 EN Q T' (mkF m pc' L (v.toList ++ S))) : OF p e below n1 z1 EN Q T (mkF m pc L st) := by
  subst hp has hk' hn' hst
  obtain ⟨cx, hz, hz', eT, locs, X, N⟩ := W
  obtain ⟨hx, hZ, hby, hml, hown, hnm, hr, hlk⟩ := cx
  obtain ⟨v, _, ⟨T', L2, k2, n2⟩, -, X2, ⟨Lc, hQ, l2, y2, z2⟩, st2⟩ := Jvm.LawKit.callS X hx (y := y) hown (mvT hZ w1) (mvT hZ w2) (mvT hZ w3) (mvT hZ w4) hy (backOf (W := wt) (Q := OQ Q' h.size n0) C hZ w4 w3 hfr hlo) (g := mkF m pc L (argsL.reverse ++ S)) rfl (hL.trans hml.symm) (argsL := argsL) (rest := S) hlen rfl
    (by show 2 * 0 + _ ≤ _; rw [hwt]; omega) (hb hby hd) (fun _ _ => ⟨rfl, eT, hcl, hsl⟩)
  dsimp only [Pt.U, Pt.locs, Pt.cells, Pt.slots] at X2 l2 y2 z2 st2 hQ
  subst l2 y2 z2
  obtain ⟨q1, q2, q3⟩ := hQ
  exact OF.step (fun t z => st2 t z) (k1 v T' T'.heap ⟨⟨hx, hZ, hby, hml, hown, hnm, hr, hlk⟩, hz, Nat.le_trans hz' q2, rfl, _, X2, Fr.app N q3⟩ q1 q2)
theorem o_callSI {index : Nat} {y : MethodName} {B' : ByteArray} {ml' wt : Nat} {rt' : Option FieldType} {rm : Room} {as : Array Value} {P' : Int32 → Heap → Prop} {argsL : List Value} {st : List Value} (W : OW p l e R s m args below meth c Z B ml own nm rt n0 z0 T h kk nn)
    (C : OCon l Z y B' ml' rt' [] rm as h n0 (QI P')) (w1 : (Jvm.Cond.methodLink own index y).before a0 Z = true) (w2 : (Jvm.Cond.static y).before a0 Z = true) (w3 : (Jvm.Cond.initialized y.cls).before a0 Z = true) (w4 : (Jvm.Cond.code y B' ml' rt').before a0 Z = true)
    (hy : y.cls ≠ "java/lang/invoke/MethodHandle" ∧ y.cls ≠ "java/lang/invoke/VarHandle") (hlen : ∀ sig, parseMethodDescriptor y.desc = some sig → argsL.length = sig.parameters.length) (has : argsL.toArray = as) (hst : st = argsL.reverse ++ S) (hL : L.size = ml)
    (hwt : (S.map fun v => v.category).sum = wt) (hfr : rm.frames + 1 ≤ R.frames) (hlo : wt + (ml' + 11) + rm.locals ≤ R.locals) (hcl : kk + rm.cells ≤ R.cells) (hsl : nn + rm.slots ≤ R.slots) (hk' : kk + rm.cells = kk') (hn' : nn + rm.slots = nn')
    (hd : decode B pc = .ok (.invokestatic index, 3)) (hp : pc + 3 = pc')
    (k1 : ∀ r T' h', OW p l e R s m args below meth c Z B ml own nm rt n0 z0 T' h' kk' nn' → P' r h' → h.size ≤ h'.size → OF p e below n1 z1 EN Q T' (mkF m pc' L (.int r :: S))) : OF p e below n1 z1 EN Q T (mkF m pc L st) :=
  o_callS W C w1 w2 w3 w4 hy hlen has hst hL hwt hfr hlo hcl hsl hk' hn' hd hp (fun v T' h' W' q z => by
    obtain ⟨r, rfl, q⟩ := q
    exact k1 r T' h' W' q z)
theorem o_callSJ {index : Nat} {y : MethodName} {B' : ByteArray} {ml' wt : Nat} {rt' : Option FieldType} {rm : Room} {as : Array Value} {P' : Int64 → Heap → Prop} {argsL : List Value} {st : List Value} (W : OW p l e R s m args below meth c Z B ml own nm rt n0 z0 T h kk nn)
    (C : OCon l Z y B' ml' rt' [] rm as h n0 (QJ P')) (w1 : (Jvm.Cond.methodLink own index y).before a0 Z = true) (w2 : (Jvm.Cond.static y).before a0 Z = true) (w3 : (Jvm.Cond.initialized y.cls).before a0 Z = true) (w4 : (Jvm.Cond.code y B' ml' rt').before a0 Z = true)
    (hy : y.cls ≠ "java/lang/invoke/MethodHandle" ∧ y.cls ≠ "java/lang/invoke/VarHandle") (hlen : ∀ sig, parseMethodDescriptor y.desc = some sig → argsL.length = sig.parameters.length) (has : argsL.toArray = as) (hst : st = argsL.reverse ++ S) (hL : L.size = ml)
    (hwt : (S.map fun v => v.category).sum = wt) (hfr : rm.frames + 1 ≤ R.frames) (hlo : wt + (ml' + 11) + rm.locals ≤ R.locals) (hcl : kk + rm.cells ≤ R.cells) (hsl : nn + rm.slots ≤ R.slots) (hk' : kk + rm.cells = kk') (hn' : nn + rm.slots = nn')
    (hd : decode B pc = .ok (.invokestatic index, 3)) (hp : pc + 3 = pc')
    (k1 : ∀ r T' h', OW p l e R s m args below meth c Z B ml own nm rt n0 z0 T' h' kk' nn' → P' r h' → h.size ≤ h'.size → OF p e below n1 z1 EN Q T' (mkF m pc' L (.long r :: S))) : OF p e below n1 z1 EN Q T (mkF m pc L st) :=
  o_callS W C w1 w2 w3 w4 hy hlen has hst hL hwt hfr hlo hcl hsl hk' hn' hd hp (fun v T' h' W' q z => by
    obtain ⟨r, rfl, q⟩ := q
    exact k1 r T' h' W' q z)
theorem o_callSA {index : Nat} {y : MethodName} {B' : ByteArray} {ml' wt : Nat} {rt' : Option FieldType} {rm : Room} {as : Array Value} {P' : Addr → Heap → Prop} {argsL : List Value} {st : List Value} (W : OW p l e R s m args below meth c Z B ml own nm rt n0 z0 T h kk nn)
    (C : OCon l Z y B' ml' rt' [] rm as h n0 (QA P')) (w1 : (Jvm.Cond.methodLink own index y).before a0 Z = true) (w2 : (Jvm.Cond.static y).before a0 Z = true) (w3 : (Jvm.Cond.initialized y.cls).before a0 Z = true) (w4 : (Jvm.Cond.code y B' ml' rt').before a0 Z = true)
    (hy : y.cls ≠ "java/lang/invoke/MethodHandle" ∧ y.cls ≠ "java/lang/invoke/VarHandle") (hlen : ∀ sig, parseMethodDescriptor y.desc = some sig → argsL.length = sig.parameters.length) (has : argsL.toArray = as) (hst : st = argsL.reverse ++ S) (hL : L.size = ml)
    (hwt : (S.map fun v => v.category).sum = wt) (hfr : rm.frames + 1 ≤ R.frames) (hlo : wt + (ml' + 11) + rm.locals ≤ R.locals) (hcl : kk + rm.cells ≤ R.cells) (hsl : nn + rm.slots ≤ R.slots) (hk' : kk + rm.cells = kk') (hn' : nn + rm.slots = nn')
    (hd : decode B pc = .ok (.invokestatic index, 3)) (hp : pc + 3 = pc')
    (k1 : ∀ r T' h', OW p l e R s m args below meth c Z B ml own nm rt n0 z0 T' h' kk' nn' → P' r h' → h.size ≤ h'.size → OF p e below n1 z1 EN Q T' (mkF m pc' L (.ref r :: S))) : OF p e below n1 z1 EN Q T (mkF m pc L st) :=
  o_callS W C w1 w2 w3 w4 hy hlen has hst hL hwt hfr hlo hcl hsl hk' hn' hd hp (fun v T' h' W' q z => by
    obtain ⟨r, rfl, q⟩ := q
    exact k1 r T' h' W' q z)
/-- an array of ints, bytes or chars at a, with these components -/
def OA (Z : State) (h : Heap) (a : Addr) (ty : FieldType) (xs : List Int32) : Prop := xs.length < 2 ^ 31 ∧ (∀ x ∈ xs, fits ty (.int x) = true) ∧ ∃ cl : Cell, Arr Z h a cl ty ∧ cl.slots = (xs.map Value.int).toArray
theorem OA.lt {a : Addr} {ty : FieldType} {xs : List Int32} (A : OA Z h a ty xs) : a < h.size := by obtain ⟨_, _, _, A, _⟩ := A; exact A.lt
theorem OA.ext {a : Addr} {ty : FieldType} {xs : List Int32} (A : OA Z h a ty xs) (E : Ext h h') : OA Z h' a ty xs := by obtain ⟨q1, q2, cl, A, q3⟩ := A; exact ⟨q1, q2, cl, A.ext E, q3⟩
theorem OA.keep {a : Addr} {ty : FieldType} {xs : List Int32} {ws : List Addr} (A : OA Z h a ty xs) (K : Keep h h' ws) (q : a ∉ ws) : OA Z h' a ty xs := by obtain ⟨q1, q2, cl, A, q3⟩ := A; exact ⟨q1, q2, cl, ⟨K.2.1 a cl A.1 q, A.2⟩, q3⟩
theorem OA.keep1 {a b : Addr} {ty : FieldType} {xs : List Int32} (A : OA Z h a ty xs) (K : Keep h h' [b]) (q : a ≠ b) : OA Z h' a ty xs := A.keep K (by simpa using q)
theorem OA.len {a : Addr} {ty : FieldType} {xs : List Int32} (A : OA Z h a ty xs) : xs.length < 2 ^ 31 := A.1
theorem o_tn (x : Int32) : x.toNatClampNeg = x.toInt.toNat := rfl
theorem o_nat {j : Int32} {i : Nat} (q : j.toInt = i) : j.toNatClampNeg = i := by rw [o_tn, q]; exact Int.toNat_natCast i
theorem o_in {j : Int32} {i : Nat} {xs : List Int32} {cl : Cell} (hi : j.toInt = i) (hs : cl.slots = (xs.map Value.int).toArray) (q : i < xs.length) : ¬ (j < 0 ∨ cl.slots.size ≤ j.toNatClampNeg) := by
  rw [o_nat hi, hs]; simp only [List.size_toArray, List.length_map, Int32.lt_iff_toInt_lt, hi, o_zero]; omega
theorem o_newarray {aty : ArrayType} {ty : FieldType} {v : Int32} {len cap : Nat} (W : OW p l e R s m args below meth c Z B ml own nm rt n0 z0 T h kk nn) (w : (Jvm.Cond.arrayClass ty).before a0 Z = true) (hty : newarray.typeOf aty = ty) (hdv : defaultValue ty = .int 0) (hft : fits ty (.int 0) = true) (hd : decode B pc = .ok (.newarray aty, 2)) (hp : pc + 2 = pc')
    (hv : v.toInt = len) (hlc : len ≤ cap) (hcap : cap * 8 ≤ 536870912) (hc : kk + 1 ≤ R.cells) (hl : nn + cap ≤ R.slots) (hk' : kk + 1 = kk') (hn' : nn + cap = nn')
    (k1 : ∀ T' h' a, OW p l e R s m args below meth c Z B ml own nm rt n0 z0 T' h' kk' nn' → Ext h h' → a = h.size → OA Z h' a ty (List.replicate len 0) → OF p e below n1 z1 EN Q T' (mkF m pc' L (.ref a :: S))) : OF p e below n1 z1 EN Q T (mkF m pc L (.int v :: S)) := by
  subst hp hk' hn' hty
  obtain ⟨cx, hz, hz', eT, locs, X, N⟩ := W
  obtain ⟨hx, hZ, hby, hml, hown, hnm, hr, hlk⟩ := cx
  obtain ⟨T', h', cA, X', e', E, A, st⟩ := newP X hx hZ w eT (g := mkF m pc L (.int v :: S)) rfl (hb hby hd) rfl (o_nlt (by rw [hv, o_zero]; omega)) (cap := cap) (by rw [o_nat hv]; exact hlc) hcap hc hl
  refine OF.step (fun t z => st t z) (k1 T' h' h.size ⟨⟨hx, hZ, hby, hml, hown, hnm, hr, hlk⟩, hz, Nat.le_trans hz' E.1, e', _, X', N⟩ E rfl ⟨by rw [List.length_replicate]; omega, fun x hx => by rw [List.mem_replicate] at hx; rw [hx.2]; exact hft, _, A, ?_⟩)
  simp [newA, hdv, o_nat hv]
theorem o_iaload {a : Addr} {xs : List Int32} {j v : Int32} {i : Nat} (W : OW p l e R s m args below meth c Z B ml own nm rt n0 z0 T h kk nn) (A : OA Z h a .int xs) (hd : decode B pc = .ok (.iaload, 1)) (hp : pc + 1 = pc') (hi : j.toInt = i) (hv : xs[i]? = some v)
    (k1 : OF p e below n1 z1 EN Q T (mkF m pc' L (.int v :: S))) : OF p e below n1 z1 EN Q T (mkF m pc L (.int j :: .ref a :: S)) := by
  subst hp
  obtain ⟨cx, hz, hz', eT, locs, X, N⟩ := W
  obtain ⟨hx, hZ, hby, hml, hown, hnm, hr, hlk⟩ := cx
  obtain ⟨q1, q2, cl, A, q3⟩ := A
  have hlt : i < xs.length := (List.getElem?_eq_some_iff.mp hv).1
  exact OF.step (fun t z => X.iaload hx (j := j) (v := .int v) (by rw [eT]; exact A.1) (State.isArrayOf_alike hZ.alike A.2.1) A.2.2 (o_in hi q3 hlt) (by rw [o_nat hi, q3]; simp [hv]) (g := mkF m pc L (.int j :: .ref a :: S)) rfl rfl (hb hby hd) t z) k1
theorem o_baload {a : Addr} {xs : List Int32} {j v : Int32} {i : Nat} (W : OW p l e R s m args below meth c Z B ml own nm rt n0 z0 T h kk nn) (A : OA Z h a .byte xs) (hd : decode B pc = .ok (.baload, 1)) (hp : pc + 1 = pc') (hi : j.toInt = i) (hv : xs[i]? = some v)
    (k1 : OF p e below n1 z1 EN Q T (mkF m pc' L (.int v :: S))) : OF p e below n1 z1 EN Q T (mkF m pc L (.int j :: .ref a :: S)) := by
  subst hp
  obtain ⟨cx, hz, hz', eT, locs, X, N⟩ := W
  obtain ⟨hx, hZ, hby, hml, hown, hnm, hr, hlk⟩ := cx
  obtain ⟨q1, q2, cl, A, q3⟩ := A
  have hlt : i < xs.length := (List.getElem?_eq_some_iff.mp hv).1
  exact OF.step (fun t z => X.baloadBytes hx (j := j) (v := .int v) (by rw [eT]; exact A.1) (State.isArrayOf_alike hZ.alike A.2.1) A.2.2 (o_in hi q3 hlt) (by rw [o_nat hi, q3]; simp [hv]) (g := mkF m pc L (.int j :: .ref a :: S)) rfl rfl (hb hby hd) t z) k1
theorem o_caload {a : Addr} {xs : List Int32} {j v : Int32} {i : Nat} (W : OW p l e R s m args below meth c Z B ml own nm rt n0 z0 T h kk nn) (A : OA Z h a .char xs) (hd : decode B pc = .ok (.caload, 1)) (hp : pc + 1 = pc') (hi : j.toInt = i) (hv : xs[i]? = some v)
    (k1 : OF p e below n1 z1 EN Q T (mkF m pc' L (.int v :: S))) : OF p e below n1 z1 EN Q T (mkF m pc L (.int j :: .ref a :: S)) := by
  subst hp
  obtain ⟨cx, hz, hz', eT, locs, X, N⟩ := W
  obtain ⟨hx, hZ, hby, hml, hown, hnm, hr, hlk⟩ := cx
  obtain ⟨q1, q2, cl, A, q3⟩ := A
  have hlt : i < xs.length := (List.getElem?_eq_some_iff.mp hv).1
  exact OF.step (fun t z => X.caload hx (j := j) (v := .int v) (by rw [eT]; exact A.1) (State.isArrayOf_alike hZ.alike A.2.1) A.2.2 (o_in hi q3 hlt) (by rw [o_nat hi, q3]; simp [hv]) (g := mkF m pc L (.int j :: .ref a :: S)) rfl rfl (hb hby hd) t z) k1
theorem o_iastore {a : Addr} {xs : List Int32} {j x : Int32} {i : Nat} (W : OW p l e R s m args below meth c Z B ml own nm rt n0 z0 T h kk nn) (A : OA Z h a .int xs) (ha : n0 ≤ a) (hd : decode B pc = .ok (.iastore, 1)) (hp : pc + 1 = pc') (hi : j.toInt = i) (hlt : i < xs.length)
    (k1 : ∀ T' h', OW p l e R s m args below meth c Z B ml own nm rt n0 z0 T' h' kk nn → Keep h h' [a] → OA Z h' a .int (xs.set i (x)) → OF p e below n1 z1 EN Q T' (mkF m pc' L S)) : OF p e below n1 z1 EN Q T (mkF m pc L (.int x :: .int j :: .ref a :: S)) := by
  subst hp
  obtain ⟨cx, hz, hz', eT, locs, X, N⟩ := W
  obtain ⟨hx, hZ, hby, hml, hown, hnm, hr, hlk⟩ := cx
  obtain ⟨q1, q2, cl, A, q3⟩ := A
  obtain ⟨T', h', X', e', Wr', st⟩ := stI X hx hZ eT A (j := j) (x := x) (o_in hi q3 hlt) (g := mkF m pc L (.int x :: .int j :: .ref a :: S)) rfl rfl (hb hby hd)
  have Wr' : Wr h h' a j.toNatClampNeg (.int (x)) := Wr'
  refine OF.step (fun t z => st t z) (k1 T' h' ⟨⟨hx, hZ, hby, hml, hown, hnm, hr, hlk⟩, hz, Nat.le_trans hz' (Nat.le_of_eq Wr'.size.symm), e', _, X', Fr.snoc X' N ha⟩ (Keep.of_wr Wr') ⟨by rw [List.length_set]; exact q1, fun y hy => ?_, _, A.same Wr', ?_⟩)
  · rcases List.mem_or_eq_of_mem_set hy with hy | rfl
    · exact q2 y hy
    · exact rfl
  · rw [o_nat hi]; simp [Cell.setSlot, q3, List.map_set]; try rfl
theorem o_bastore {a : Addr} {xs : List Int32} {j x : Int32} {i : Nat} (W : OW p l e R s m args below meth c Z B ml own nm rt n0 z0 T h kk nn) (A : OA Z h a .byte xs) (ha : n0 ≤ a) (hd : decode B pc = .ok (.bastore, 1)) (hp : pc + 1 = pc') (hi : j.toInt = i) (hlt : i < xs.length)
    (k1 : ∀ T' h', OW p l e R s m args below meth c Z B ml own nm rt n0 z0 T' h' kk nn → Keep h h' [a] → OA Z h' a .byte (xs.set i (x.toInt8.toInt32)) → OF p e below n1 z1 EN Q T' (mkF m pc' L S)) : OF p e below n1 z1 EN Q T (mkF m pc L (.int x :: .int j :: .ref a :: S)) := by
  subst hp
  obtain ⟨cx, hz, hz', eT, locs, X, N⟩ := W
  obtain ⟨hx, hZ, hby, hml, hown, hnm, hr, hlk⟩ := cx
  obtain ⟨q1, q2, cl, A, q3⟩ := A
  obtain ⟨T', h', X', e', Wr', st⟩ := stB X hx hZ eT A (j := j) (x := x) (o_in hi q3 hlt) (g := mkF m pc L (.int x :: .int j :: .ref a :: S)) rfl rfl (hb hby hd)
  have Wr' : Wr h h' a j.toNatClampNeg (.int (x.toInt8.toInt32)) := Wr'
  refine OF.step (fun t z => st t z) (k1 T' h' ⟨⟨hx, hZ, hby, hml, hown, hnm, hr, hlk⟩, hz, Nat.le_trans hz' (Nat.le_of_eq Wr'.size.symm), e', _, X', Fr.snoc X' N ha⟩ (Keep.of_wr Wr') ⟨by rw [List.length_set]; exact q1, fun y hy => ?_, _, A.same Wr', ?_⟩)
  · rcases List.mem_or_eq_of_mem_set hy with hy | rfl
    · exact q2 y hy
    · exact fits_nar_byte x
  · rw [o_nat hi]; simp [Cell.setSlot, q3, List.map_set]; try rfl
theorem o_castore {a : Addr} {xs : List Int32} {j x : Int32} {i : Nat} (W : OW p l e R s m args below meth c Z B ml own nm rt n0 z0 T h kk nn) (A : OA Z h a .char xs) (ha : n0 ≤ a) (hd : decode B pc = .ok (.castore, 1)) (hp : pc + 1 = pc') (hi : j.toInt = i) (hlt : i < xs.length)
    (k1 : ∀ T' h', OW p l e R s m args below meth c Z B ml own nm rt n0 z0 T' h' kk nn → Keep h h' [a] → OA Z h' a .char (xs.set i (x.toUInt32.toUInt16.toUInt32.toInt32)) → OF p e below n1 z1 EN Q T' (mkF m pc' L S)) : OF p e below n1 z1 EN Q T (mkF m pc L (.int x :: .int j :: .ref a :: S)) := by
  subst hp
  obtain ⟨cx, hz, hz', eT, locs, X, N⟩ := W
  obtain ⟨hx, hZ, hby, hml, hown, hnm, hr, hlk⟩ := cx
  obtain ⟨q1, q2, cl, A, q3⟩ := A
  obtain ⟨T', h', X', e', Wr', st⟩ := stC X hx hZ eT A (j := j) (x := x) (o_in hi q3 hlt) (g := mkF m pc L (.int x :: .int j :: .ref a :: S)) rfl rfl (hb hby hd)
  have Wr' : Wr h h' a j.toNatClampNeg (.int (x.toUInt32.toUInt16.toUInt32.toInt32)) := Wr'
  refine OF.step (fun t z => st t z) (k1 T' h' ⟨⟨hx, hZ, hby, hml, hown, hnm, hr, hlk⟩, hz, Nat.le_trans hz' (Nat.le_of_eq Wr'.size.symm), e', _, X', Fr.snoc X' N ha⟩ (Keep.of_wr Wr') ⟨by rw [List.length_set]; exact q1, fun y hy => ?_, _, A.same Wr', ?_⟩)
  · rcases List.mem_or_eq_of_mem_set hy with hy | rfl
    · exact q2 y hy
    · exact fits_nar_char x
  · rw [o_nat hi]; simp [Cell.setSlot, q3, List.map_set]; try rfl
theorem o_arraylength {a : Addr} {ty : FieldType} {xs : List Int32} (W : OW p l e R s m args below meth c Z B ml own nm rt n0 z0 T h kk nn) (A : OA Z h a ty xs) (hd : decode B pc = .ok (.arraylength, 1)) (hp : pc + 1 = pc')
    (k1 : ∀ v : Int32, v.toInt = xs.length → OF p e below n1 z1 EN Q T (mkF m pc' L (.int v :: S))) : OF p e below n1 z1 EN Q T (mkF m pc L (.ref a :: S)) := by
  subst hp
  obtain ⟨cx, hz, hz', eT, locs, X, N⟩ := W
  obtain ⟨hx, hZ, hby, hml, hown, hnm, hr, hlk⟩ := cx
  obtain ⟨q1, q2, cl, A, q3⟩ := A
  have hs : cl.slots.size = xs.length := by rw [q3]; simp
  exact OF.step (fun t z => X.arraylength hx (by rw [eT]; exact A.1) (State.isArrayOf_alike hZ.alike A.2.1) (g := mkF m pc L (.ref a :: S)) rfl rfl (hb hby hd) t z) (k1 cl.slots.size.toInt32 (by rw [hs]; exact len_toInt q1))
theorem OF.join {α : Type} (Jn : α → Prop) (Tf : α → State) (fr : α → JFrame) {f : JFrame} (k1 : ∀ v, Jn v → OF p e below n1 z1 EN Q (Tf v) (fr v)) (k2 : (∀ v, Jn v → OF p e below n1 z1 EN Q (Tf v) (fr v)) → OF p e below n1 z1 EN Q T f) : OF p e below n1 z1 EN Q T f := k2 k1
theorem OF.loop {α : Type} (mu : α → Nat) (Jn : α → Prop) (Tf : α → State) (fr : α → JFrame) (k1 : ∀ v, Jn v → (∀ v', Jn v' → mu v' < mu v → OF p e below n1 z1 EN Q (Tf v') (fr v')) → OF p e below n1 z1 EN Q (Tf v) (fr v)) (v0 : α) (hv0 : Jn v0) : OF p e below n1 z1 EN Q (Tf v0) (fr v0) := by
  have key : ∀ n v, mu v < n → Jn v → OF p e below n1 z1 EN Q (Tf v) (fr v) := by
    intro n
    induction n with
    | zero => intro v hn; omega
    | succ n ih => intro v hn hv; exact k1 v hv (fun v' hv' hlt => ih v' (by omega) hv')
  exact key _ v0 (Nat.lt_succ_self _) hv0
theorem o_new {index n : Nat} {C : String} (W : OW p l e R s m args below meth c Z B ml own nm rt n0 z0 T h kk nn) (w : (Jvm.Cond.classLink own index C).before a0 Z = true) (wi : (Jvm.Cond.instantiable C n).before a0 Z = true) (wz : (Jvm.Cond.initialized C).before a0 Z = true) (hd : decode B pc = .ok (.new index, 3)) (hp : pc + 3 = pc')
    (hc : kk + 1 ≤ R.cells) (hl : nn + n ≤ R.slots) (hk' : kk + 1 = kk') (hn' : nn + n = nn')
    (k1 : ∀ T' h' a, OW p l e R s m args below meth c Z B ml own nm rt n0 z0 T' h' kk' nn' → Ext h h' → a = h.size → Exa Z h' a C → (∀ {O nm d : String} {ty : FieldType}, Laid Z a0 C O nm d → parseFieldDescriptor d = some ty → Fld Z h' a O nm d (defaultValue ty)) → OF p e below n1 z1 EN Q T' (mkF m pc' L (.ref a :: S))) : OF p e below n1 z1 EN Q T (mkF m pc L S) := by
  subst hp hk' hn'
  obtain ⟨cx, hz, hz', eT, locs, X, N⟩ := W
  obtain ⟨hx, hZ, hby, hml, hown, hnm, hr, hlk⟩ := cx
  obtain ⟨T', h', X', e', E, A, D, -, st⟩ := newO X hx hZ hown w wi wz eT (g := mkF m pc L S) rfl (hb hby hd) hc hl
  exact OF.step (fun t z => st t z) (k1 T' h' h.size ⟨⟨hx, hZ, hby, hml, hown, hnm, hr, hlk⟩, hz, Nat.le_trans hz' E.1, e', _, X', N⟩ E rfl A D)
theorem o_getF {index : Nat} {O f d : String} {a : Addr} {v : Value} (W : OW p l e R s m args below meth c Z B ml own nm rt n0 z0 T h kk nn) (w : (Jvm.Cond.fieldLink own index O f d).before a0 Z = true) (Fl : Fld Z h a O f d v) (hd : decode B pc = .ok (.getfield index, 3)) (hp : pc + 3 = pc')
    (k1 : ∀ T', OW p l e R s m args below meth c Z B ml own nm rt n0 z0 T' h kk nn → OF p e below n1 z1 EN Q T' (mkF m pc' L (v :: S))) : OF p e below n1 z1 EN Q T (mkF m pc L (.ref a :: S)) := by
  subst hp
  obtain ⟨cx, hz, hz', eT, locs, X, N⟩ := W
  obtain ⟨hx, hZ, hby, hml, hown, hnm, hr, hlk⟩ := cx
  obtain ⟨T', X', e', st⟩ := getF X hx hZ hown (host := "") (Or.inl w) Via.refl eT Fl (g := mkF m pc L (.ref a :: S)) rfl rfl (hb hby hd)
  exact OF.step (fun t z => st t z) (k1 T' ⟨⟨hx, hZ, hby, hml, hown, hnm, hr, hlk⟩, hz, hz', e', _, X', N⟩)
theorem o_putF {index kz : Nat} {O f d C : String} {a : Addr} {v v' old : Value} {ty : FieldType} (W : OW p l e R s m args below meth c Z B ml own nm rt n0 z0 T h kk nn) (w : (Jvm.Cond.fieldLink own index O f d).before a0 Z = true) (Fl : Fld Z h a O f d old) (E : Exa Z h a C) (Ly : (Jvm.Cond.lays C O f d).before a0 Z = true ∨ ((Jvm.Cond.laysFinal C O f d).before a0 Z = true ∧ own = O ∧ nm = "<init>")) (wi : (Jvm.Cond.instantiable C kz).before a0 Z = true)
    (hty : parseFieldDescriptor d = some ty) (hnw : narrow ty v = v') (hf : fits ty v' = true) (ha : n0 ≤ a) (hd : decode B pc = .ok (.putfield index, 3)) (hp : pc + 3 = pc')
    (k1 : ∀ T' h', OW p l e R s m args below meth c Z B ml own nm rt n0 z0 T' h' kk nn → Wr h h' a (Jvm.RoadKit.slotOf Z O f d) v' → OF p e below n1 z1 EN Q T' (mkF m pc' L S)) : OF p e below n1 z1 EN Q T (mkF m pc L (v :: .ref a :: S)) := by
  subst hp
  obtain ⟨cx, hz, hz', eT, locs, X, N⟩ := W
  obtain ⟨hx, hZ, hby, hml, hown, hnm, hr, hlk⟩ := cx
  obtain ⟨T', h', X', e', Wr', st⟩ := putFN X hx hZ hown w Via.refl eT Fl E (Ly.imp id (fun q => ⟨q.1, q.2.1, hnm.trans q.2.2⟩)) wi hty hnw hf (g := mkF m pc L (v :: .ref a :: S)) rfl rfl (hb hby hd)
  exact OF.step (fun t z => st t z) (k1 T' h' ⟨⟨hx, hZ, hby, hml, hown, hnm, hr, hlk⟩, hz, Nat.le_trans hz' (Nat.le_of_eq Wr'.size.symm), e', _, X', Fr.snoc X' N ha⟩ Wr')
theorem o_initO {index wt : Nat} {a : Addr} (W : OW p l e R s m args below meth c Z B ml own nm rt n0 z0 T h kk nn) (w1 : (Jvm.Cond.methodLink own index Lib.objectInit).before a0 Z = true) (w2 : (Jvm.Cond.instanceMethod Lib.objectInit).before a0 Z = true) (w3 : (Jvm.Cond.code Lib.objectInit ⟨#[0xb1]⟩ 1 none).before a0 Z = true)
    (hL : L.size = ml) (hwt : (S.map fun v => v.category).sum = wt) (hfr : 1 ≤ R.frames) (hlo : wt + 12 ≤ R.locals) (hd : decode B pc = .ok (.invokespecial index, 3)) (hp : pc + 3 = pc')
    (k1 : ∀ T', OW p l e R s m args below meth c Z B ml own nm rt n0 z0 T' h kk nn → OF p e below n1 z1 EN Q T' (mkF m pc' L S)) : OF p e below n1 z1 EN Q T (mkF m pc L (.ref a :: S)) := by
  subst hp
  obtain ⟨cx, hz, hz', eT, locs, X, N⟩ := W
  obtain ⟨hx, hZ, hby, hml, hown, hnm, hr, hlk⟩ := cx
  obtain ⟨T', X', e', st⟩ := initO X hx hZ hown w1 w2 w3 eT (g := mkF m pc L (.ref a :: S)) rfl (hL.trans hml.symm) rfl (hb hby hd) hfr (W := wt) (by show 2 * 0 + _ ≤ _; rw [hwt]; omega) hlo
  exact OF.step (fun t z => st t z) (k1 T' ⟨⟨hx, hZ, hby, hml, hown, hnm, hr, hlk⟩, hz, hz', e', _, X', N⟩)
theorem o_callC {index : Nat} {y : MethodName} {B' : ByteArray} {ml' wt : Nat} {rm : Room} {as : Array Value} {P' : Heap → Prop} {a : Addr} {argsL : List Value} {st : List Value} (W : OW p l e R s m args below meth c Z B ml own nm rt n0 z0 T h kk nn)
    (C : OCon l Z y B' ml' none [] rm as h n0 (QV P')) (hy1 : y.name = "<init>") (w1 : (Jvm.Cond.methodLink own index y).before a0 Z = true) (w2 : (Jvm.Cond.instanceMethod y).before a0 Z = true) (w3 : (Jvm.Cond.initialized y.cls).before a0 Z = true) (w4 : (Jvm.Cond.code y B' ml' none).before a0 Z = true)
    (hy : y.cls ≠ "java/lang/invoke/MethodHandle" ∧ y.cls ≠ "java/lang/invoke/VarHandle") (hlen : ∀ sig, parseMethodDescriptor y.desc = some sig → argsL.length = sig.parameters.length) (has : (.ref a :: argsL).toArray = as) (hst : st = argsL.reverse ++ .ref a :: S) (hL : L.size = ml)
    (hwt : (S.map fun v => v.category).sum = wt) (hfr : rm.frames + 1 ≤ R.frames) (hlo : wt + (ml' + 11) + rm.locals ≤ R.locals) (hcl : kk + rm.cells ≤ R.cells) (hsl : nn + rm.slots ≤ R.slots) (hk' : kk + rm.cells = kk') (hn' : nn + rm.slots = nn')
    (hd : decode B pc = .ok (.invokespecial index, 3)) (hp : pc + 3 = pc')
    (k1 : ∀ T' h', OW p l e R s m args below meth c Z B ml own nm rt n0 z0 T' h' kk' nn' → P' h' → h.size ≤ h'.size → OF p e below n1 z1 EN Q T' (mkF m pc' L S)) : OF p e below n1 z1 EN Q T (mkF m pc L st) := by
  subst hp has hk' hn' hst
  obtain ⟨cx, hz, hz', eT, locs, X, N⟩ := W
  obtain ⟨hx, hZ, hby, hml, hown, hnm, hr, hlk⟩ := cx
  obtain ⟨v, _, ⟨T', L2, k2, n2⟩, -, X2, ⟨Lc, hQ, l2, y2, z2⟩, st2⟩ := X.specialBack hx (y := y) hy1 hown (mvT hZ w1) (mvT hZ w2) (mvT hZ w4) hy (backOf (W := wt) (Q := OQ (QV P') h.size n0) C hZ w4 w3 hfr hlo) (g := mkF m pc L (argsL.reverse ++ .ref a :: S)) rfl (hL.trans hml.symm) (Steps.refl _) (a := a) (argsL := argsL) (rest := S) hlen rfl
    (by show 2 * 0 + _ ≤ _; rw [hwt]; omega) (hb hby hd) (fun _ _ => ⟨rfl, eT, hcl, hsl⟩)
  dsimp only [Pt.U, Pt.locs, Pt.cells, Pt.slots] at X2 l2 y2 z2 st2 hQ
  subst l2 y2 z2
  obtain ⟨⟨rfl, q1⟩, q2, q3⟩ := hQ
  exact OF.step (fun t z => st2.trans z) (k1 T' T'.heap ⟨⟨hx, hZ, hby, hml, hown, hnm, hr, hlk⟩, hz, Nat.le_trans hz' q2, rfl, _, X2, Fr.app N q3⟩ q1 q2)
theorem o_callV {index : Nat} {y z : MethodName} {K : String} {B' : ByteArray} {ml' wt : Nat} {rt' : Option FieldType} {rm : Room} {as : Array Value} {Q' : Option Value → Heap → Prop} {a : Addr} {argsL : List Value} {st : List Value} (W : OW p l e R s m args below meth c Z B ml own nm rt n0 z0 T h kk nn)
    (E : Exa Z h a K) (C : OCon l Z z B' ml' rt' [] rm as h n0 Q') (w1 : (Jvm.Cond.methodLink own index y).before a0 Z = true) (w2 : (Jvm.Cond.declares y).before a0 Z = true) (w5 : NotFace s y) (w6 : (Jvm.Cond.selects K y z).before a0 Z = true) (w7 : (Jvm.Cond.instanceMethod z).before a0 Z = true) (w3 : (Jvm.Cond.initialized z.cls).before a0 Z = true) (w4 : (Jvm.Cond.code z B' ml' rt').before a0 Z = true)
    (hy : y.cls ≠ "java/lang/invoke/MethodHandle" ∧ y.cls ≠ "java/lang/invoke/VarHandle") (hlen : ∀ sig, parseMethodDescriptor y.desc = some sig → argsL.length = sig.parameters.length) (has : (.ref a :: argsL).toArray = as) (hst : st = argsL.reverse ++ .ref a :: S) (hL : L.size = ml)
    (hwt : (S.map fun v => v.category).sum = wt) (hfr : rm.frames + 1 ≤ R.frames) (hlo : wt + (ml' + 11) + rm.locals ≤ R.locals) (hcl : kk + rm.cells ≤ R.cells) (hsl : nn + rm.slots ≤ R.slots) (hk' : kk + rm.cells = kk') (hn' : nn + rm.slots = nn')
    (hd : decode B pc = .ok (.invokevirtual index, 3)) (hp : pc + 3 = pc')
    (k1 : ∀ v T' h', OW p l e R s m args below meth c Z B ml own nm rt n0 z0 T' h' kk' nn' → Q' v h' → h.size ≤ h'.size → OF p e below n1 z1 EN Q T' (mkF m pc' L (v.toList ++ S))) : OF p e below n1 z1 EN Q T (mkF m pc L st) := by
  subst hp has hk' hn' hst
  obtain ⟨cx, hz, hz', eT, locs, X, N⟩ := W
  obtain ⟨hx, hZ, hby, hml, hown, hnm, hr, hlk⟩ := cx
  obtain ⟨cq, kq, qa, qb, qc⟩ := isOf hZ eT E
  obtain ⟨v, _, ⟨T', L2, k2, n2⟩, -, X2, ⟨Lc, hQ, l2, y2, z2⟩, st2⟩ := X.virtualBack hx (y := y) (z := z) hown (mvT hZ w1) (mvT hZ w2) w5 (mvT hZ w6) (mvT hZ w7) hy (backOf (W := wt) (Q := OQ Q' h.size n0) C hZ w4 w3 hfr hlo) qa qc (g := mkF m pc L (argsL.reverse ++ .ref a :: S)) rfl (hL.trans hml.symm) (Steps.refl _) (argsL := argsL) (rest := S) hlen rfl
    (by show 2 * 0 + _ ≤ _; rw [hwt]; omega) (hb hby hd) (fun _ _ => ⟨rfl, eT, hcl, hsl⟩)
  dsimp only [Pt.U, Pt.locs, Pt.cells, Pt.slots] at X2 l2 y2 z2 st2 hQ
  subst l2 y2 z2
  obtain ⟨q1, q2, q3⟩ := hQ
  exact OF.step (fun t z => st2.trans z) (k1 v T' T'.heap ⟨⟨hx, hZ, hby, hml, hown, hnm, hr, hlk⟩, hz, Nat.le_trans hz' q2, rfl, _, X2, Fr.app N q3⟩ q1 q2)
end OwnKit
theorem ow {a0 : Array Value} {Z : State} (hw : ∀ d ∈ tables_1, d.before a0 Z = true) (k : Nat) {d : Jvm.Cond} (h : tables_1[k]? = some d) : d.before a0 Z = true := hw _ (List.mem_of_getElem? h)
theorem own_rng (x : Int32) : -2147483648 ≤ x.toInt ∧ x.toInt < 2147483648 := ⟨x.le_toInt, x.toInt_lt⟩
theorem own_lrng (x : Int64) : -9223372036854775808 ≤ x.toInt ∧ x.toInt < 9223372036854775808 := ⟨x.le_toInt, x.toInt_lt⟩
theorem own_rem (x y : Int32) : (x - (x / y) * y).toInt = x.toInt.tmod y.toInt := by
  have a := (x % y).toInt_lt; have b := (x % y).le_toInt
  rw [Int32.toInt_mod] at a b
  rw [Int32.toInt_sub, Int32.toInt_mul, Int32.toInt_div, Int.bmod_mul_bmod, Int.sub_bmod_bmod, Int.mul_comm, ← Int.tmod_def]
  exact Jvm.Kit.bmod32 b a
theorem own_remp {x y : Int32} (hx : 0 ≤ x.toInt) : (x - (x / y) * y).toInt = x.toInt % y.toInt := by rw [own_rem, Int.tmod_eq_emod_of_nonneg hx]
theorem own_char (x : Int32) : 0 ≤ (x.toUInt32.toUInt16.toUInt32.toInt32).toInt ∧ (x.toUInt32.toUInt16.toUInt32.toInt32).toInt ≤ 65535 := by
  have q := fits_nar_char x
  simp only [fits, nar, Bool.and_eq_true, decide_eq_true_eq, Int32.le_iff_toInt_le] at q
  exact q
theorem own_ix {x y : Int32} {n : Nat} (hx : 0 ≤ x.toInt) (hy : y.toInt = n) (hn : 0 < n) : ∃ i : Nat, (x - x / y * y).toInt = i ∧ i < n := by
  have h := own_remp (y := y) hx
  rw [hy] at h
  have h1 := Int.emod_nonneg x.toInt (b := (n : Int)) (by omega)
  have h2 := Int.emod_lt_of_pos x.toInt (b := (n : Int)) (by omega)
  exact ⟨(x.toInt % n).toNat, by omega, by omega⟩
theorem own_nz {v : Int32} {n : Nat} (h : v.toInt = n) (hn : 0 < n) : v ≠ 0 := fun e => by
  rw [e] at h; have c0 : (0 : Int32).toInt = 0 := rfl; omega
theorem own_and31 (x : Int32) : 0 ≤ (x &&& 2147483647).toInt := by
  have h1 : (x &&& 2147483647).toInt = x.toInt % 2147483648 := Jvm.Kit.i32_mask x 2147483647 (k := 31) (by decide) (by decide)
  omega
theorem own_ushr (x : Int32) {n : UInt32} {k : Nat} (hn : n.toNat = k) (h0 : 0 < k) (hk : k < 32) : ((x.toUInt32 >>> n).toInt32).toInt = ((x.toUInt32.toNat / 2 ^ k : Nat) : Int) := by
  have e : ((x.toUInt32 >>> n).toInt32).toInt = ((x.toUInt32 >>> n).toBitVec).toInt := rfl
  have q : (x.toUInt32 >>> n).toBitVec.toNat = x.toUInt32.toNat / 2 ^ k := by
    show (x.toUInt32 >>> n).toNat = _
    rw [UInt32.toNat_shiftRight, hn, Nat.mod_eq_of_lt hk, Nat.shiftRight_eq_div_pow]
  have lt := x.toUInt32.toNat_lt
  have p1 : 2 ^ 1 ≤ 2 ^ k := Nat.pow_le_pow_right (by decide) h0
  have p2 : x.toUInt32.toNat / 2 ^ k ≤ x.toUInt32.toNat / 2 ^ 1 := Nat.div_le_div_left p1 (by decide)
  rw [e, BitVec.toInt_eq_toNat_cond, q, if_pos (by omega)]
theorem own_ushr1 (x : Int32) : 0 ≤ ((x.toUInt32 >>> ((1 : Int32) &&& 31).toUInt32).toInt32).toInt := by
  rw [own_ushr x (k := 1) (by decide) (by decide) (by decide)]; omega
theorem own_nn {v : Int32} (h : 0 ≤ v.toInt) : v.toBitVec.toNat = v.toInt.toNat := by
  have q : v.toInt = v.toBitVec.toInt := rfl
  rw [BitVec.toInt_eq_toNat_cond] at q
  have := v.toBitVec.isLt
  split at q <;> omega
theorem own_lnn {v : Int64} (h : 0 ≤ v.toInt) : v.toBitVec.toNat = v.toInt.toNat := by
  have q : v.toInt = v.toBitVec.toInt := rfl
  rw [BitVec.toInt_eq_toNat_cond] at q
  have := v.toBitVec.isLt
  split at q <;> omega
theorem own_ofNat {t : Nat} (h : t < 1000) : (Int32.ofNat t).toInt = t := Int32.toInt_ofNat_of_lt (by omega)
theorem own_succ {t : Nat} (h : t < 900) : Int32.ofNat t + 1 = Int32.ofNat (t + 1) := by
  apply Int32.toInt_inj.mp
  have c1 : (1 : Int32).toInt = 1 := rfl
  have e1 := own_ofNat (t := t) (by omega)
  have e2 := own_ofNat (t := t + 1) (by omega)
  rw [Jvm.Kit.i32_add (by omega) (by omega)]; omega
def own_pg (v : Int64) (c : Int32) (t : Nat) : Int32 := ((((v.toUInt64 >>> (((8 : Int32) * ((c - 1) - Int32.ofNat t)) &&& 0x3f).toInt64.toUInt64).toInt64).toInt32).toInt8.toInt32).toInt8.toInt32
def own_ob (v : Int64) (d : Int32) : Int32 := ((v >>> (((8 : Int32) * d) &&& 0x3f).toInt64).toInt32).toInt8.toInt32
def own_pl (g : Nat → Int32) (xs : List Int32) (i : Nat) : Nat → List Int32
  | 0 => xs
  | t + 1 => (own_pl g xs i t).set (i + t) (g t)
theorem own_pl_len (g : Nat → Int32) (xs : List Int32) (i : Nat) : ∀ t, (own_pl g xs i t).length = xs.length
  | 0 => rfl
  | t + 1 => by show ((own_pl g xs i t).set (i + t) (g t)).length = _; rw [List.length_set]; exact own_pl_len g xs i t
theorem own_pl_get (g : Nat → Int32) (xs : List Int32) (i k : Nat) (hk : k < xs.length) : ∀ t, (own_pl g xs i t)[k]? = if i ≤ k ∧ k < i + t then some (g (k - i)) else xs[k]?
  | 0 => by rw [if_neg (by omega)]; rfl
  | t + 1 => by
    show ((own_pl g xs i t).set (i + t) (g t))[k]? = _
    rw [List.getElem?_set, own_pl_len, own_pl_get g xs i k hk t]
    by_cases h1 : i + t = k
    · subst h1
      rw [if_pos rfl, if_pos hk, if_pos (by omega)]
      congr 2; omega
    · rw [if_neg h1]
      by_cases h2 : i ≤ k ∧ k < i + t
      · rw [if_pos h2, if_pos (by omega)]
      · rw [if_neg h2, if_neg (by omega)]
theorem own_bmod8 (a : Int) : (a.bmod (2 ^ 8)) % 256 = a % 256 := by rw [Int.bmod_def]; split <;> omega
theorem own_bmod32 (a : Int) : (a.bmod (2 ^ 32)) % 256 = a % 256 := by rw [Int.bmod_def]; split <;> omega
theorem own_bmod64 (a : Int) : (a.bmod (2 ^ 64)) % 256 = a % 256 := by rw [Int.bmod_def]; split <;> omega
theorem own_i8 {x y : Int32} (h : x.toInt % 256 = y.toInt % 256) : x.toInt8 = y.toInt8 := by
  apply Int8.toInt_inj.mp
  rw [Int32.toInt_toInt8, Int32.toInt_toInt8, Int.bmod_def, Int.bmod_def]
  have p8 : ((2 ^ 8 : Nat) : Int) = 256 := rfl
  rw [p8, h]
theorem own_dbl (x : Int32) : (x.toInt8.toInt32).toInt8.toInt32 = x.toInt8.toInt32 := by
  have : (x.toInt8.toInt32).toInt8 = x.toInt8 := by
    apply own_i8
    rw [Int8.toInt_toInt32, Int32.toInt_toInt8, own_bmod8]
  rw [this]
theorem own_shift (v : Int64) (d : Int32) (n : Nat) (hd : d.toInt = n) (hn : n < 8) :
    ((v.toUInt64 >>> (((8 : Int32) * d) &&& 0x3f).toInt64.toUInt64).toInt64).toInt32.toInt8 = ((v >>> (((8 : Int32) * d) &&& 0x3f).toInt64).toInt32).toInt8 := by
  have ed : d = Int32.ofNat n := by
    apply Int32.toInt_inj.mp
    rw [Int32.toInt_ofNat_of_lt (by omega)]; omega
  apply own_i8
  rw [Int64.toInt_toInt32, Int64.toInt_toInt32, own_bmod32, own_bmod32]
  have hv : v.toInt = v.toUInt64.toNat ∨ v.toInt = (v.toUInt64.toNat : Int) - 18446744073709551616 := by
    have q : v.toInt = v.toBitVec.toInt := rfl
    have q2 : v.toBitVec.toNat = v.toUInt64.toNat := rfl
    rw [q, BitVec.toInt_eq_toNat_cond, q2]
    split
    · exact Or.inl rfl
    · exact Or.inr rfl
  have u : ∀ w : UInt64, w.toInt64.toInt % 256 = ((w.toNat % 256 : Nat) : Int) := by
    intro w
    have e : w.toInt64.toInt = w.toBitVec.toInt := rfl
    rw [e, BitVec.toInt_eq_toNat_bmod, own_bmod64]
    have e2 : w.toBitVec.toNat = w.toNat := rfl
    rw [e2]; omega
  have hs : ∀ {m : UInt64} {k : Nat}, m.toNat = k → k < 64 → (v.toUInt64 >>> m).toNat = v.toUInt64.toNat / 2 ^ k := by
    intro m k hm hk
    rw [UInt64.toNat_shiftRight, hm, Nat.mod_eq_of_lt hk, Nat.shiftRight_eq_div_pow]
  subst ed
  rw [u]
  have h8 : n = 0 ∨ n = 1 ∨ n = 2 ∨ n = 3 ∨ n = 4 ∨ n = 5 ∨ n = 6 ∨ n = 7 := by omega
  rcases h8 with rfl | rfl | rfl | rfl | rfl | rfl | rfl | rfl
  · rw [hs (k := 0) (by decide) (by decide), Jvm.Kit.i64_shr v _ (k := 0) (by decide)]; omega
  · rw [hs (k := 8) (by decide) (by decide), Jvm.Kit.i64_shr v _ (k := 8) (by decide)]; omega
  · rw [hs (k := 16) (by decide) (by decide), Jvm.Kit.i64_shr v _ (k := 16) (by decide)]; omega
  · rw [hs (k := 24) (by decide) (by decide), Jvm.Kit.i64_shr v _ (k := 24) (by decide)]; omega
  · rw [hs (k := 32) (by decide) (by decide), Jvm.Kit.i64_shr v _ (k := 32) (by decide)]; omega
  · rw [hs (k := 40) (by decide) (by decide), Jvm.Kit.i64_shr v _ (k := 40) (by decide)]; omega
  · rw [hs (k := 48) (by decide) (by decide), Jvm.Kit.i64_shr v _ (k := 48) (by decide)]; omega
  · rw [hs (k := 56) (by decide) (by decide), Jvm.Kit.i64_shr v _ (k := 56) (by decide)]; omega
theorem own_okw (v : Int64) (off cnt J f : Int32) (i n j : Nat) (h1 : off.toInt = i) (h2 : cnt.toInt = n) (h3 : J.toInt = j) (hi : i < 8) (hn : n < 9) (hj : j < 16) :
    ∃ w, (own_pl (own_pg v cnt) (List.replicate 16 f) i n)[j]? = some w ∧ (J.toInt < off.toInt ∨ off.toInt + cnt.toInt ≤ J.toInt → w = f) ∧ (off.toInt ≤ J.toInt → J.toInt < off.toInt + cnt.toInt → w = own_ob v (off + cnt - 1 - J)) := by
  have g := own_pl_get (own_pg v cnt) (List.replicate 16 f) i j (by rw [List.length_replicate]; exact hj) n
  by_cases hc : i ≤ j ∧ j < i + n
  · rw [if_pos hc] at g
    refine ⟨_, g, fun q => by omega, fun _ _ => ?_⟩
    have c1 : (1 : Int32).toInt = 1 := rfl
    have e0 := own_ofNat (t := j - i) (by omega)
    have a1 : (cnt - 1).toInt = cnt.toInt - (1 : Int32).toInt := Jvm.Kit.i32_sub (by omega) (by omega)
    have a2 : ((cnt - 1) - Int32.ofNat (j - i)).toInt = (cnt - 1).toInt - (Int32.ofNat (j - i)).toInt := Jvm.Kit.i32_sub (by omega) (by omega)
    have b1 : (off + cnt).toInt = off.toInt + cnt.toInt := Jvm.Kit.i32_add (by omega) (by omega)
    have b2 : (off + cnt - 1).toInt = (off + cnt).toInt - (1 : Int32).toInt := Jvm.Kit.i32_sub (by omega) (by omega)
    have b3 : (off + cnt - 1 - J).toInt = (off + cnt - 1).toInt - J.toInt := Jvm.Kit.i32_sub (by omega) (by omega)
    have e : (cnt - 1) - Int32.ofNat (j - i) = off + cnt - 1 - J := Int32.toInt_inj.mp (by omega)
    show own_pg v cnt (j - i) = own_ob v (off + cnt - 1 - J)
    unfold own_pg own_ob
    rw [own_dbl, e, own_shift v (off + cnt - 1 - J) (n - 1 - (j - i)) (by omega) (by omega)]
  · rw [if_neg hc] at g
    refine ⟨f, by rw [g, List.getElem?_replicate, if_pos hj], fun _ => rfl, fun q1 q2 => by omega⟩
theorem own_pn0 : plainName "com/example/plainwire/plainwire/wire/BigEndian" = true := by first | (simp [plainName, overriddenIn]; done) | decide +kernel
theorem own_ef1 (m : MethodId) (z0 : Addr) (z1 : Int32) (z2 : Int64) (z3 : Int32) : entryFrame m #[(.ref z0), (.int z1), (.long z2), (.int z3)] 6 = mkF m 0 #[.val (.ref z0), .val (.int z1), .val (.long z2), .second, .val (.int z3), .unset] [] := by first | (simp [entryFrame, mkF, argsToLocals, Value.category]; done) | rfl
theorem own_d1_0 : decode prog_32_method_3_code 0 = .ok (.iconst 0, 1) := by decide +kernel
theorem own_d1_1 : decode prog_32_method_3_code 1 = .ok (.istore 5, 2) := by decide +kernel
theorem own_d1_3 : decode prog_32_method_3_code 3 = .ok (.iload 5, 2) := by decide +kernel
theorem own_d1_5 : decode prog_32_method_3_code 5 = .ok (.iload 4, 2) := by decide +kernel
theorem own_d1_7 : decode prog_32_method_3_code 7 = .ok (.if_icmp .ge 29, 3) := by decide +kernel
theorem own_d1_36 : decode prog_32_method_3_code 36 = .ok (.iload_n 1, 1) := by decide +kernel
theorem own_d1_37 : decode prog_32_method_3_code 37 = .ok (.iload 4, 2) := by decide +kernel
theorem own_d1_39 : decode prog_32_method_3_code 39 = .ok (.iadd, 1) := by decide +kernel
theorem own_d1_40 : decode prog_32_method_3_code 40 = .ok (.ireturn, 1) := by decide +kernel
theorem own_d1_10 : decode prog_32_method_3_code 10 = .ok (.aload_n 0, 1) := by decide +kernel
theorem own_d1_11 : decode prog_32_method_3_code 11 = .ok (.iload_n 1, 1) := by decide +kernel
theorem own_d1_12 : decode prog_32_method_3_code 12 = .ok (.iload 5, 2) := by decide +kernel
theorem own_d1_14 : decode prog_32_method_3_code 14 = .ok (.iadd, 1) := by decide +kernel
theorem own_d1_15 : decode prog_32_method_3_code 15 = .ok (.lload_n 2, 1) := by decide +kernel
theorem own_d1_16 : decode prog_32_method_3_code 16 = .ok (.bipush 8, 2) := by decide +kernel
theorem own_d1_18 : decode prog_32_method_3_code 18 = .ok (.iload 4, 2) := by decide +kernel
theorem own_d1_20 : decode prog_32_method_3_code 20 = .ok (.iconst 1, 1) := by decide +kernel
theorem own_d1_21 : decode prog_32_method_3_code 21 = .ok (.isub, 1) := by decide +kernel
theorem own_d1_22 : decode prog_32_method_3_code 22 = .ok (.iload 5, 2) := by decide +kernel
theorem own_d1_24 : decode prog_32_method_3_code 24 = .ok (.isub, 1) := by decide +kernel
theorem own_d1_25 : decode prog_32_method_3_code 25 = .ok (.imul, 1) := by decide +kernel
theorem own_d1_26 : decode prog_32_method_3_code 26 = .ok (.lushr, 1) := by decide +kernel
theorem own_d1_27 : decode prog_32_method_3_code 27 = .ok (.l2i, 1) := by decide +kernel
theorem own_d1_28 : decode prog_32_method_3_code 28 = .ok (.i2b, 1) := by decide +kernel
theorem own_d1_29 : decode prog_32_method_3_code 29 = .ok (.bastore, 1) := by decide +kernel
theorem own_d1_30 : decode prog_32_method_3_code 30 = .ok (.iinc 5 1, 3) := by decide +kernel
theorem own_d1_33 : decode prog_32_method_3_code 33 = .ok (.goto (-30), 3) := by decide +kernel
set_option maxRecDepth 65536 in
set_option maxHeartbeats 4000000 in
theorem rm1 (l : Launch) (Z : State) (a0 : Array Value) (hw : ∀ d ∈ tables_1, d.before a0 Z = true) (b0 : Addr) (y1 : Int32) (y2 : Int64) (y3 : Int32) (h0 : Heap) (n0 : Nat) (Z0 : n0 ≤ h0.size) (xs : List Int32) (i n : Nat) (A0 : OA Z h0 b0 .byte xs) (g0 : n0 ≤ b0) (hi : y1.toInt = i) (hn : y3.toInt = n) (hin : i + n ≤ xs.length) (hil : i + n < 100) :
    OCon l Z (⟨"com/example/plainwire/plainwire/wire/BigEndian", "put", "([BIJI)I"⟩ : MethodName) prog_32_method_3_code 6 (some .int) [] ({ frames := 0, cells := 0, slots := 0, locals := 0 } : Room) #[(.ref b0), (.int y1), (.long y2), (.int y3)] h0 n0 (QI fun r h' => r.toInt = ((i + n : Nat) : Int) ∧ OA Z h' b0 .byte (own_pl (own_pg y2 y3) xs i n)) := by
  refine OCon.mk (plainFor_of_name own_pn0) Z0 ?_
  intro p e s m below meth cd s₁ W0
  refine OF.cast (own_ef1 m b0 y1 y2 y3) ?_
  refine o_iconst W0 (v := (0 : Int32)) own_d1_0 rfl (pc' := 1) rfl ?_
  refine o_istore W0 (L' := #[.val (.ref b0), .val (.int y1), .val (.long y2), .second, .val (.int y3), .val (.int (0 : Int32))]) own_d1_1 rfl (pc' := 3) rfl ?_
  refine OF.loop (α := State × Heap × Nat) (fun v => n - v.2.2) (fun v => OW p l e ({ frames := 0, cells := 0, slots := 0, locals := 0 } : Room) s m #[(.ref b0), (.int y1), (.long y2), (.int y3)] below meth cd Z prog_32_method_3_code 6 (⟨"com/example/plainwire/plainwire/wire/BigEndian", "put", "([BIJI)I"⟩ : MethodName).cls (⟨"com/example/plainwire/plainwire/wire/BigEndian", "put", "([BIJI)I"⟩ : MethodName).name (some .int) n0 h0.size v.1 v.2.1 0 0 ∧ v.2.2 ≤ n ∧ OA Z v.2.1 b0 .byte (own_pl (own_pg y2 y3) xs i v.2.2)) (fun v => v.1) (fun v => mkF m 3 #[.val (.ref b0), .val (.int y1), .val (.long y2), .second, .val (.int y3), .val (.int (Int32.ofNat v.2.2))] []) ?_ (s₁, h0, 0) ?_
  · intro ⟨TL, hL, t⟩ hv ih
    obtain ⟨WL, hv1, AL⟩ := hv
    have hv1 : t ≤ n := hv1
    have ht := own_ofNat (t := t) (by omega)
    show OF _ _ _ _ _ _ _ TL (mkF m 3 #[.val (.ref b0), .val (.int y1), .val (.long y2), .second, .val (.int y3), .val (.int (Int32.ofNat t))] [])
    refine o_iload WL own_d1_3 (v := (Int32.ofNat t)) rfl (pc' := 5) rfl ?_
    refine o_iload WL own_d1_5 (v := y3) rfl (pc' := 7) rfl ?_
    refine o_icmp_ge WL own_d1_7 (by decide) (pq := 36) (by decide) (pc' := 10) rfl (fun hc7 => ?_) (fun hc7 => ?_)
    · refine o_iloadN WL own_d1_36 (v := y1) rfl (pc' := 37) rfl ?_
      refine o_iload WL own_d1_37 (v := y3) rfl (pc' := 39) rfl ?_
      refine o_iadd WL own_d1_39 (pc' := 40) rfl ?_
      refine o_retI WL rfl own_d1_40 (by decide) (by decide) ?_
      obtain rfl : t = n := by omega
      have hadd : (y1 + y3).toInt = ((i + t : Nat) : Int) := by rw [Jvm.Kit.i32_add (by omega) (by omega)]; omega
      exact ⟨_, rfl, hadd, AL⟩
    · refine o_aloadN WL own_d1_10 (v := (.ref b0)) rfl rfl (pc' := 11) rfl ?_
      refine o_iloadN WL own_d1_11 (v := y1) rfl (pc' := 12) rfl ?_
      refine o_iload WL own_d1_12 (v := (Int32.ofNat t)) rfl (pc' := 14) rfl ?_
      refine o_iadd WL own_d1_14 (pc' := 15) rfl ?_
      refine o_lloadN WL own_d1_15 (v := y2) rfl (pc' := 16) rfl ?_
      refine o_bipush WL (v := (8 : Int32)) own_d1_16 rfl (pc' := 18) rfl ?_
      refine o_iload WL own_d1_18 (v := y3) rfl (pc' := 20) rfl ?_
      refine o_iconst WL (v := (1 : Int32)) own_d1_20 rfl (pc' := 21) rfl ?_
      refine o_isub WL own_d1_21 (pc' := 22) rfl ?_
      refine o_iload WL own_d1_22 (v := (Int32.ofNat t)) rfl (pc' := 24) rfl ?_
      refine o_isub WL own_d1_24 (pc' := 25) rfl ?_
      refine o_imul WL own_d1_25 (pc' := 26) rfl ?_
      refine o_lushr WL own_d1_26 (pc' := 27) rfl ?_
      refine o_l2i WL own_d1_27 (pc' := 28) rfl ?_
      refine o_i2b WL own_d1_28 (pc' := 29) rfl ?_
      refine o_bastore WL AL g0 own_d1_29 (pc' := 30) rfl (i := (i + t)) (by rw [Jvm.Kit.i32_add (by omega) (by omega)]; omega) (by rw [own_pl_len]; omega) ?_
      intro T1 h1 W1 K1 A_b0_1
      refine o_iinc W1 (x := (Int32.ofNat t)) (L' := #[.val (.ref b0), .val (.int y1), .val (.long y2), .second, .val (.int y3), .val (.int ((Int32.ofNat t) + (1 : Int32)))]) own_d1_30 rfl rfl (pc' := 33) rfl ?_
      refine o_goto W1 own_d1_33 (by decide) (pq := 3) (by decide) ?_
      rw [own_succ (by omega)]
      exact ih (T1, h1, t + 1) ⟨W1, (show t + 1 ≤ n by omega), A_b0_1⟩ (show n - (t + 1) < n - t by omega)
  · exact ⟨W0, Nat.zero_le _, A0⟩
theorem own_pn1 : plainName "com/example/plainwire/plainwire/wire/BigEndianPutPinLaw" = true := by first | (simp [plainName, overriddenIn]; done) | decide +kernel
theorem own_ef2 (m : MethodId) (z0 : Addr) (z1 : Int32) (z2 : Int32) (z3 : Int32) (z4 : Int64) (z5 : Int32) : entryFrame m #[(.ref z0), (.int z1), (.int z2), (.int z3), (.long z4), (.int z5)] 8 = mkF m 0 #[.val (.ref z0), .val (.int z1), .val (.int z2), .val (.int z3), .val (.long z4), .second, .val (.int z5), .unset] [] := by first | (simp [entryFrame, mkF, argsToLocals, Value.category]; done) | rfl
theorem own_d2_0 : decode method_3_code 0 = .ok (.iload_n 1, 1) := by decide +kernel
theorem own_d2_1 : decode method_3_code 1 = .ok (.iload_n 2, 1) := by decide +kernel
theorem own_d2_2 : decode method_3_code 2 = .ok (.if_icmp .lt 10, 3) := by decide +kernel
theorem own_d2_12 : decode method_3_code 12 = .ok (.aload_n 0, 1) := by decide +kernel
theorem own_d2_13 : decode method_3_code 13 = .ok (.iload_n 1, 1) := by decide +kernel
theorem own_d2_14 : decode method_3_code 14 = .ok (.baload, 1) := by decide +kernel
theorem own_d2_15 : decode method_3_code 15 = .ok (.iload 6, 2) := by decide +kernel
theorem own_d2_17 : decode method_3_code 17 = .ok (.if_icmp .ne 7, 3) := by decide +kernel
theorem own_d2_20 : decode method_3_code 20 = .ok (.iconst 1, 1) := by decide +kernel
theorem own_d2_21 : decode method_3_code 21 = .ok (.goto 4, 3) := by decide +kernel
theorem own_d2_25 : decode method_3_code 25 = .ok (.ireturn, 1) := by decide +kernel
theorem own_d2_5 : decode method_3_code 5 = .ok (.iload_n 1, 1) := by decide +kernel
theorem own_d2_6 : decode method_3_code 6 = .ok (.iload_n 2, 1) := by decide +kernel
theorem own_d2_7 : decode method_3_code 7 = .ok (.iload_n 3, 1) := by decide +kernel
theorem own_d2_8 : decode method_3_code 8 = .ok (.iadd, 1) := by decide +kernel
theorem own_d2_9 : decode method_3_code 9 = .ok (.if_icmp .lt 17, 3) := by decide +kernel
theorem own_d2_26 : decode method_3_code 26 = .ok (.iload_n 2, 1) := by decide +kernel
theorem own_d2_27 : decode method_3_code 27 = .ok (.iload_n 3, 1) := by decide +kernel
theorem own_d2_28 : decode method_3_code 28 = .ok (.iadd, 1) := by decide +kernel
theorem own_d2_29 : decode method_3_code 29 = .ok (.iconst 1, 1) := by decide +kernel
theorem own_d2_30 : decode method_3_code 30 = .ok (.isub, 1) := by decide +kernel
theorem own_d2_31 : decode method_3_code 31 = .ok (.iload_n 1, 1) := by decide +kernel
theorem own_d2_32 : decode method_3_code 32 = .ok (.isub, 1) := by decide +kernel
theorem own_d2_33 : decode method_3_code 33 = .ok (.istore 7, 2) := by decide +kernel
theorem own_d2_35 : decode method_3_code 35 = .ok (.aload_n 0, 1) := by decide +kernel
theorem own_d2_36 : decode method_3_code 36 = .ok (.iload_n 1, 1) := by decide +kernel
theorem own_d2_37 : decode method_3_code 37 = .ok (.baload, 1) := by decide +kernel
theorem own_d2_38 : decode method_3_code 38 = .ok (.lload 4, 2) := by decide +kernel
theorem own_d2_40 : decode method_3_code 40 = .ok (.bipush 8, 2) := by decide +kernel
theorem own_d2_42 : decode method_3_code 42 = .ok (.iload 7, 2) := by decide +kernel
theorem own_d2_44 : decode method_3_code 44 = .ok (.imul, 1) := by decide +kernel
theorem own_d2_45 : decode method_3_code 45 = .ok (.lshr, 1) := by decide +kernel
theorem own_d2_46 : decode method_3_code 46 = .ok (.l2i, 1) := by decide +kernel
theorem own_d2_47 : decode method_3_code 47 = .ok (.i2b, 1) := by decide +kernel
theorem own_d2_48 : decode method_3_code 48 = .ok (.if_icmp .ne 7, 3) := by decide +kernel
theorem own_d2_51 : decode method_3_code 51 = .ok (.iconst 1, 1) := by decide +kernel
theorem own_d2_52 : decode method_3_code 52 = .ok (.goto 4, 3) := by decide +kernel
theorem own_d2_56 : decode method_3_code 56 = .ok (.ireturn, 1) := by decide +kernel
set_option maxRecDepth 65536 in
set_option maxHeartbeats 4000000 in
theorem rm2 (l : Launch) (Z : State) (a0 : Array Value) (hw : ∀ d ∈ tables_1, d.before a0 Z = true) (b0 : Addr) (y1 : Int32) (y2 : Int32) (y3 : Int32) (y4 : Int64) (y5 : Int32) (h0 : Heap) (n0 : Nat) (Z0 : n0 ≤ h0.size) (xs : List Int32) (w : Int32) (jn : Nat) (A0 : OA Z h0 b0 .byte xs) (hw0 : xs[jn]? = some w) (hj : y1.toInt = jn) (h2 : 0 ≤ y2.toInt ∧ y2.toInt < 100) (h3 : 0 ≤ y3.toInt ∧ y3.toInt < 100) (hw1 : y1.toInt < y2.toInt ∨ y2.toInt + y3.toInt ≤ y1.toInt → w = y5) (hw2 : y2.toInt ≤ y1.toInt → y1.toInt < y2.toInt + y3.toInt → w = own_ob y4 (y2 + y3 - 1 - y1)) :
    OCon l Z (⟨"com/example/plainwire/plainwire/wire/BigEndianPutPinLaw", "ok", "([BIIIJB)Z"⟩ : MethodName) method_3_code 8 (some .boolean) [] ({ frames := 0, cells := 0, slots := 0, locals := 0 } : Room) #[(.ref b0), (.int y1), (.int y2), (.int y3), (.long y4), (.int y5)] h0 n0 (QI fun r h' => r = 1 ∧ h0 = h') := by
  refine OCon.mk (plainFor_of_name own_pn1) Z0 ?_
  intro p e s m below meth cd s₁ W0
  refine OF.cast (own_ef2 m b0 y1 y2 y3 y4 y5) ?_
  have hadd : (y2 + y3).toInt = y2.toInt + y3.toInt := Jvm.Kit.i32_add (by omega) (by omega)
  refine o_iloadN W0 own_d2_0 (v := y1) rfl (pc' := 1) rfl ?_
  refine o_iloadN W0 own_d2_1 (v := y2) rfl (pc' := 2) rfl ?_
  refine o_icmp_lt W0 own_d2_2 (by decide) (pq := 12) (by decide) (pc' := 5) rfl (fun hc2 => ?_) (fun hc2 => ?_)
  · refine o_aloadN W0 own_d2_12 (v := (.ref b0)) rfl rfl (pc' := 13) rfl ?_
    refine o_iloadN W0 own_d2_13 (v := y1) rfl (pc' := 14) rfl ?_
    refine o_baload W0 A0 own_d2_14 (pc' := 15) rfl (i := jn) (v := w) hj hw0 ?_
    refine o_iload W0 own_d2_15 (v := y5) rfl (pc' := 17) rfl ?_
    refine o_icmp_ne W0 own_d2_17 (by decide) (pq := 24) (by decide) (pc' := 20) rfl (fun hc17 => ?_) (fun hc17 => ?_)
    · exfalso
      exact hc17 (congrArg Int32.toInt (hw1 (by omega)))
    · refine o_iconst W0 (v := (1 : Int32)) own_d2_20 rfl (pc' := 21) rfl ?_
      refine o_goto W0 own_d2_21 (by decide) (pq := 25) (by decide) ?_
      refine o_retN W0 (t := .boolean) rfl (by simp) own_d2_25 (by decide) (by decide) ?_
      exact ⟨(1 : Int32), rfl, rfl, rfl⟩
  · refine o_iloadN W0 own_d2_5 (v := y1) rfl (pc' := 6) rfl ?_
    refine o_iloadN W0 own_d2_6 (v := y2) rfl (pc' := 7) rfl ?_
    refine o_iloadN W0 own_d2_7 (v := y3) rfl (pc' := 8) rfl ?_
    refine o_iadd W0 own_d2_8 (pc' := 9) rfl ?_
    refine o_icmp_lt W0 own_d2_9 (by decide) (pq := 26) (by decide) (pc' := 12) rfl (fun hc9 => ?_) (fun hc9 => ?_)
    · refine o_iloadN W0 own_d2_26 (v := y2) rfl (pc' := 27) rfl ?_
      refine o_iloadN W0 own_d2_27 (v := y3) rfl (pc' := 28) rfl ?_
      refine o_iadd W0 own_d2_28 (pc' := 29) rfl ?_
      refine o_iconst W0 (v := (1 : Int32)) own_d2_29 rfl (pc' := 30) rfl ?_
      refine o_isub W0 own_d2_30 (pc' := 31) rfl ?_
      refine o_iloadN W0 own_d2_31 (v := y1) rfl (pc' := 32) rfl ?_
      refine o_isub W0 own_d2_32 (pc' := 33) rfl ?_
      refine o_istoreG W0 (Lf := fun v2 => #[.val (.ref b0), .val (.int y1), .val (.int y2), .val (.int y3), .val (.long y4), .second, .val (.int y5), .val (.int v2)]) own_d2_33 rfl (pc' := 35) rfl ?_
      intro v2 hv2
      refine o_aloadN W0 own_d2_35 (v := (.ref b0)) rfl rfl (pc' := 36) rfl ?_
      refine o_iloadN W0 own_d2_36 (v := y1) rfl (pc' := 37) rfl ?_
      refine o_baload W0 A0 own_d2_37 (pc' := 38) rfl (i := jn) (v := w) hj hw0 ?_
      refine o_lload W0 own_d2_38 (v := y4) rfl (pc' := 40) rfl ?_
      refine o_bipush W0 (v := (8 : Int32)) own_d2_40 rfl (pc' := 42) rfl ?_
      refine o_iload W0 own_d2_42 (v := v2) rfl (pc' := 44) rfl ?_
      refine o_imul W0 own_d2_44 (pc' := 45) rfl ?_
      refine o_lshr W0 own_d2_45 (pc' := 46) rfl ?_
      refine o_l2i W0 own_d2_46 (pc' := 47) rfl ?_
      refine o_i2b W0 own_d2_47 (pc' := 48) rfl ?_
      refine o_icmp_ne W0 own_d2_48 (by decide) (pq := 55) (by decide) (pc' := 51) rfl (fun hc48 => ?_) (fun hc48 => ?_)
      · exfalso
        apply hc48
        rw [hv2]
        exact congrArg Int32.toInt (hw2 (by omega) (by omega))
      · refine o_iconst W0 (v := (1 : Int32)) own_d2_51 rfl (pc' := 52) rfl ?_
        refine o_goto W0 own_d2_52 (by decide) (pq := 56) (by decide) ?_
        refine o_retN W0 (t := .boolean) rfl (by simp) own_d2_56 (by decide) (by decide) ?_
        exact ⟨(1 : Int32), rfl, rfl, rfl⟩
    · refine o_aloadN W0 own_d2_12 (v := (.ref b0)) rfl rfl (pc' := 13) rfl ?_
      refine o_iloadN W0 own_d2_13 (v := y1) rfl (pc' := 14) rfl ?_
      refine o_baload W0 A0 own_d2_14 (pc' := 15) rfl (i := jn) (v := w) hj hw0 ?_
      refine o_iload W0 own_d2_15 (v := y5) rfl (pc' := 17) rfl ?_
      refine o_icmp_ne W0 own_d2_17 (by decide) (pq := 24) (by decide) (pc' := 20) rfl (fun hc17 => ?_) (fun hc17 => ?_)
      · exfalso
        exact hc17 (congrArg Int32.toInt (hw1 (by omega)))
      · refine o_iconst W0 (v := (1 : Int32)) own_d2_20 rfl (pc' := 21) rfl ?_
        refine o_goto W0 own_d2_21 (by decide) (pq := 25) (by decide) ?_
        refine o_retN W0 (t := .boolean) rfl (by simp) own_d2_25 (by decide) (by decide) ?_
        exact ⟨(1 : Int32), rfl, rfl, rfl⟩
theorem own_ef0 (m : MethodId) (z0 : Int32) (z1 : Int64) (z2 : Int32) (z3 : Int32) : entryFrame m #[(.int z0), (.long z1), (.int z2), (.int z3)] maxLocals = mkF m 0 #[.val (.int z0), .val (.long z1), .second, .val (.int z2), .val (.int z3), .unset, .unset, .unset, .unset, .unset] [] := by first | (simp [entryFrame, mkF, argsToLocals, Value.category, maxLocals]; done) | rfl
theorem own_pd0 : parseMethodDescriptor "([BIJI)I" = some ⟨[(.array .byte), .int, .long, .int], some .int⟩ := by decide +kernel
theorem own_pd1 : parseMethodDescriptor "([BIIIJB)Z" = some ⟨[(.array .byte), .int, .int, .int, .long, .byte], some .boolean⟩ := by decide +kernel
set_option maxRecDepth 65536 in
set_option maxHeartbeats 4000000 in
theorem own_law (l : Launch) (Z : State) (a0 : Array Value) (hw : ∀ d ∈ tables_1, d.before a0 Z = true) (x0 : Int32) (x1 : Int64) (x2 : Int32) (x3 : Int32) (h0 : Heap) (n0 : Nat) (Z0 : n0 ≤ h0.size) :
    OCon l Z x code maxLocals ret tables_1 room_1 #[(.int x0), (.long x1), (.int x2), (.int x3)] h0 n0 (fun v _ => v = some (.int 1)) := by
  refine OCon.mk (plainFor_of_name own_pn1) Z0 ?_
  intro p e s m below meth cd s₁ W0
  refine OF.cast (own_ef0 m x0 x1 x2 x3) ?_
  refine o_iloadN W0 at_0 (v := x0) rfl (pc' := 1) rfl ?_
  refine o_bipush W0 (v := (7 : Int32)) at_1 rfl (pc' := 3) rfl ?_
  refine o_iand W0 at_3 (pc' := 4) rfl ?_
  refine o_istoreG W0 (Lf := fun v3 => #[.val (.int x0), .val (.long x1), .second, .val (.int x2), .val (.int x3), .val (.int v3), .unset, .unset, .unset, .unset]) at_4 rfl (pc' := 6) rfl ?_
  intro v3 hv3
  refine o_iloadN W0 at_6 (v := x2) rfl (pc' := 7) rfl ?_
  refine o_ldc W0 (ow hw 0 rfl) at_7 (pc' := 9) rfl ?_
  refine o_iand W0 at_9 (pc' := 10) rfl ?_
  refine o_bipush W0 (v := (9 : Int32)) at_10 rfl (pc' := 12) rfl ?_
  refine o_irem W0 at_12 (by decide) (pc' := 13) rfl ?_
  refine o_istoreG W0 (Lf := fun v4 => #[.val (.int x0), .val (.long x1), .second, .val (.int x2), .val (.int x3), .val (.int v3), .val (.int v4), .unset, .unset, .unset]) at_13 rfl (pc' := 15) rfl ?_
  intro v4 hv4
  refine o_iload W0 at_15 (v := x3) rfl (pc' := 17) rfl ?_
  refine o_i2b W0 at_17 (pc' := 18) rfl ?_
  refine o_istoreG W0 (Lf := fun v5 => #[.val (.int x0), .val (.long x1), .second, .val (.int x2), .val (.int x3), .val (.int v3), .val (.int v4), .val (.int v5), .unset, .unset]) at_18 rfl (pc' := 20) rfl ?_
  intro v5 hv5
  have hm7 : (x0 &&& 7).toInt = x0.toInt % 8 := Jvm.Kit.i32_mask x0 7 (k := 3) (by decide) (by decide)
  rw [← hv3] at hm7
  obtain ⟨i5, hi5⟩ : ∃ i : Nat, v3.toInt = i := ⟨v3.toInt.toNat, by omega⟩
  obtain ⟨i6, hi6, hlt6⟩ := own_ix (own_and31 x2) (y := 9) (n := 9) rfl (by decide)
  rw [← hv4] at hi6
  have hlt5 : i5 < 8 := by omega
  have hf7 : v5.toInt8.toInt32 = v5 := by rw [hv5, own_dbl]
  refine o_bipush W0 (v := (16 : Int32)) at_20 rfl (pc' := 22) rfl ?_
  refine o_newarray W0 (ty := .byte) (len := 16) (cap := 16) (ow hw 1 rfl) rfl rfl rfl at_22 (pc' := 24) rfl rfl (by decide) (by decide) (by decide) (by decide) (kk' := 1) rfl (nn' := 16) rfl ?_
  intro T7 h7 a6 W7 E7 g_a6 A_a6
  have b_a6 : n0 ≤ a6 := by rw [g_a6]; exact W0.le
  have A_a6 : OA Z h7 a6 .byte [0, 0, 0, 0, 0, 0, 0, 0, 0, 0, 0, 0, 0, 0, 0, 0] := A_a6
  refine o_dup W7 at_24 rfl (pc' := 25) rfl ?_
  refine o_iconst W7 (v := (0 : Int32)) at_25 rfl (pc' := 26) rfl ?_
  refine o_iload W7 at_26 (v := v5) rfl (pc' := 28) rfl ?_
  refine o_bastore W7 A_a6 b_a6 at_28 (pc' := 29) rfl (i := 0) rfl (Nat.le_of_ble_eq_true rfl) ?_
  intro T8 h8 W8 K8 A_a6_8
  have A_a6_8 : OA Z h8 a6 .byte [(v5.toInt8.toInt32), 0, 0, 0, 0, 0, 0, 0, 0, 0, 0, 0, 0, 0, 0, 0] := A_a6_8
  refine o_dup W8 at_29 rfl (pc' := 30) rfl ?_
  refine o_iconst W8 (v := (1 : Int32)) at_30 rfl (pc' := 31) rfl ?_
  refine o_iload W8 at_31 (v := v5) rfl (pc' := 33) rfl ?_
  refine o_bastore W8 A_a6_8 b_a6 at_33 (pc' := 34) rfl (i := 1) rfl (Nat.le_of_ble_eq_true rfl) ?_
  intro T9 h9 W9 K9 A_a6_9
  have A_a6_9 : OA Z h9 a6 .byte [(v5.toInt8.toInt32), (v5.toInt8.toInt32), 0, 0, 0, 0, 0, 0, 0, 0, 0, 0, 0, 0, 0, 0] := A_a6_9
  refine o_dup W9 at_34 rfl (pc' := 35) rfl ?_
  refine o_iconst W9 (v := (2 : Int32)) at_35 rfl (pc' := 36) rfl ?_
  refine o_iload W9 at_36 (v := v5) rfl (pc' := 38) rfl ?_
  refine o_bastore W9 A_a6_9 b_a6 at_38 (pc' := 39) rfl (i := 2) rfl (Nat.le_of_ble_eq_true rfl) ?_
  intro T10 h10 W10 K10 A_a6_10
  have A_a6_10 : OA Z h10 a6 .byte [(v5.toInt8.toInt32), (v5.toInt8.toInt32), (v5.toInt8.toInt32), 0, 0, 0, 0, 0, 0, 0, 0, 0, 0, 0, 0, 0] := A_a6_10
  refine o_dup W10 at_39 rfl (pc' := 40) rfl ?_
  refine o_iconst W10 (v := (3 : Int32)) at_40 rfl (pc' := 41) rfl ?_
  refine o_iload W10 at_41 (v := v5) rfl (pc' := 43) rfl ?_
  refine o_bastore W10 A_a6_10 b_a6 at_43 (pc' := 44) rfl (i := 3) rfl (Nat.le_of_ble_eq_true rfl) ?_
  intro T11 h11 W11 K11 A_a6_11
  have A_a6_11 : OA Z h11 a6 .byte [(v5.toInt8.toInt32), (v5.toInt8.toInt32), (v5.toInt8.toInt32), (v5.toInt8.toInt32), 0, 0, 0, 0, 0, 0, 0, 0, 0, 0, 0, 0] := A_a6_11
  refine o_dup W11 at_44 rfl (pc' := 45) rfl ?_
  refine o_iconst W11 (v := (4 : Int32)) at_45 rfl (pc' := 46) rfl ?_
  refine o_iload W11 at_46 (v := v5) rfl (pc' := 48) rfl ?_
  refine o_bastore W11 A_a6_11 b_a6 at_48 (pc' := 49) rfl (i := 4) rfl (Nat.le_of_ble_eq_true rfl) ?_
  intro T12 h12 W12 K12 A_a6_12
  have A_a6_12 : OA Z h12 a6 .byte [(v5.toInt8.toInt32), (v5.toInt8.toInt32), (v5.toInt8.toInt32), (v5.toInt8.toInt32), (v5.toInt8.toInt32), 0, 0, 0, 0, 0, 0, 0, 0, 0, 0, 0] := A_a6_12
  refine o_dup W12 at_49 rfl (pc' := 50) rfl ?_
  refine o_iconst W12 (v := (5 : Int32)) at_50 rfl (pc' := 51) rfl ?_
  refine o_iload W12 at_51 (v := v5) rfl (pc' := 53) rfl ?_
  refine o_bastore W12 A_a6_12 b_a6 at_53 (pc' := 54) rfl (i := 5) rfl (Nat.le_of_ble_eq_true rfl) ?_
  intro T13 h13 W13 K13 A_a6_13
  have A_a6_13 : OA Z h13 a6 .byte [(v5.toInt8.toInt32), (v5.toInt8.toInt32), (v5.toInt8.toInt32), (v5.toInt8.toInt32), (v5.toInt8.toInt32), (v5.toInt8.toInt32), 0, 0, 0, 0, 0, 0, 0, 0, 0, 0] := A_a6_13
  refine o_dup W13 at_54 rfl (pc' := 55) rfl ?_
  refine o_bipush W13 (v := (6 : Int32)) at_55 rfl (pc' := 57) rfl ?_
  refine o_iload W13 at_57 (v := v5) rfl (pc' := 59) rfl ?_
  refine o_bastore W13 A_a6_13 b_a6 at_59 (pc' := 60) rfl (i := 6) rfl (Nat.le_of_ble_eq_true rfl) ?_
  intro T14 h14 W14 K14 A_a6_14
  have A_a6_14 : OA Z h14 a6 .byte [(v5.toInt8.toInt32), (v5.toInt8.toInt32), (v5.toInt8.toInt32), (v5.toInt8.toInt32), (v5.toInt8.toInt32), (v5.toInt8.toInt32), (v5.toInt8.toInt32), 0, 0, 0, 0, 0, 0, 0, 0, 0] := A_a6_14
  refine o_dup W14 at_60 rfl (pc' := 61) rfl ?_
  refine o_bipush W14 (v := (7 : Int32)) at_61 rfl (pc' := 63) rfl ?_
  refine o_iload W14 at_63 (v := v5) rfl (pc' := 65) rfl ?_
  refine o_bastore W14 A_a6_14 b_a6 at_65 (pc' := 66) rfl (i := 7) rfl (Nat.le_of_ble_eq_true rfl) ?_
  intro T15 h15 W15 K15 A_a6_15
  have A_a6_15 : OA Z h15 a6 .byte [(v5.toInt8.toInt32), (v5.toInt8.toInt32), (v5.toInt8.toInt32), (v5.toInt8.toInt32), (v5.toInt8.toInt32), (v5.toInt8.toInt32), (v5.toInt8.toInt32), (v5.toInt8.toInt32), 0, 0, 0, 0, 0, 0, 0, 0] := A_a6_15
  refine o_dup W15 at_66 rfl (pc' := 67) rfl ?_
  refine o_bipush W15 (v := (8 : Int32)) at_67 rfl (pc' := 69) rfl ?_
  refine o_iload W15 at_69 (v := v5) rfl (pc' := 71) rfl ?_
  refine o_bastore W15 A_a6_15 b_a6 at_71 (pc' := 72) rfl (i := 8) rfl (Nat.le_of_ble_eq_true rfl) ?_
  intro T16 h16 W16 K16 A_a6_16
  have A_a6_16 : OA Z h16 a6 .byte [(v5.toInt8.toInt32), (v5.toInt8.toInt32), (v5.toInt8.toInt32), (v5.toInt8.toInt32), (v5.toInt8.toInt32), (v5.toInt8.toInt32), (v5.toInt8.toInt32), (v5.toInt8.toInt32), (v5.toInt8.toInt32), 0, 0, 0, 0, 0, 0, 0] := A_a6_16
  refine o_dup W16 at_72 rfl (pc' := 73) rfl ?_
  refine o_bipush W16 (v := (9 : Int32)) at_73 rfl (pc' := 75) rfl ?_
  refine o_iload W16 at_75 (v := v5) rfl (pc' := 77) rfl ?_
  refine o_bastore W16 A_a6_16 b_a6 at_77 (pc' := 78) rfl (i := 9) rfl (Nat.le_of_ble_eq_true rfl) ?_
  intro T17 h17 W17 K17 A_a6_17
  have A_a6_17 : OA Z h17 a6 .byte [(v5.toInt8.toInt32), (v5.toInt8.toInt32), (v5.toInt8.toInt32), (v5.toInt8.toInt32), (v5.toInt8.toInt32), (v5.toInt8.toInt32), (v5.toInt8.toInt32), (v5.toInt8.toInt32), (v5.toInt8.toInt32), (v5.toInt8.toInt32), 0, 0, 0, 0, 0, 0] := A_a6_17
  refine o_dup W17 at_78 rfl (pc' := 79) rfl ?_
  refine o_bipush W17 (v := (10 : Int32)) at_79 rfl (pc' := 81) rfl ?_
  refine o_iload W17 at_81 (v := v5) rfl (pc' := 83) rfl ?_
  refine o_bastore W17 A_a6_17 b_a6 at_83 (pc' := 84) rfl (i := 10) rfl (Nat.le_of_ble_eq_true rfl) ?_
  intro T18 h18 W18 K18 A_a6_18
  have A_a6_18 : OA Z h18 a6 .byte [(v5.toInt8.toInt32), (v5.toInt8.toInt32), (v5.toInt8.toInt32), (v5.toInt8.toInt32), (v5.toInt8.toInt32), (v5.toInt8.toInt32), (v5.toInt8.toInt32), (v5.toInt8.toInt32), (v5.toInt8.toInt32), (v5.toInt8.toInt32), (v5.toInt8.toInt32), 0, 0, 0, 0, 0] := A_a6_18
  refine o_dup W18 at_84 rfl (pc' := 85) rfl ?_
  refine o_bipush W18 (v := (11 : Int32)) at_85 rfl (pc' := 87) rfl ?_
  refine o_iload W18 at_87 (v := v5) rfl (pc' := 89) rfl ?_
  refine o_bastore W18 A_a6_18 b_a6 at_89 (pc' := 90) rfl (i := 11) rfl (Nat.le_of_ble_eq_true rfl) ?_
  intro T19 h19 W19 K19 A_a6_19
  have A_a6_19 : OA Z h19 a6 .byte [(v5.toInt8.toInt32), (v5.toInt8.toInt32), (v5.toInt8.toInt32), (v5.toInt8.toInt32), (v5.toInt8.toInt32), (v5.toInt8.toInt32), (v5.toInt8.toInt32), (v5.toInt8.toInt32), (v5.toInt8.toInt32), (v5.toInt8.toInt32), (v5.toInt8.toInt32), (v5.toInt8.toInt32), 0, 0, 0, 0] := A_a6_19
  refine o_dup W19 at_90 rfl (pc' := 91) rfl ?_
  refine o_bipush W19 (v := (12 : Int32)) at_91 rfl (pc' := 93) rfl ?_
  refine o_iload W19 at_93 (v := v5) rfl (pc' := 95) rfl ?_
  refine o_bastore W19 A_a6_19 b_a6 at_95 (pc' := 96) rfl (i := 12) rfl (Nat.le_of_ble_eq_true rfl) ?_
  intro T20 h20 W20 K20 A_a6_20
  have A_a6_20 : OA Z h20 a6 .byte [(v5.toInt8.toInt32), (v5.toInt8.toInt32), (v5.toInt8.toInt32), (v5.toInt8.toInt32), (v5.toInt8.toInt32), (v5.toInt8.toInt32), (v5.toInt8.toInt32), (v5.toInt8.toInt32), (v5.toInt8.toInt32), (v5.toInt8.toInt32), (v5.toInt8.toInt32), (v5.toInt8.toInt32), (v5.toInt8.toInt32), 0, 0, 0] := A_a6_20
  refine o_dup W20 at_96 rfl (pc' := 97) rfl ?_
  refine o_bipush W20 (v := (13 : Int32)) at_97 rfl (pc' := 99) rfl ?_
  refine o_iload W20 at_99 (v := v5) rfl (pc' := 101) rfl ?_
  refine o_bastore W20 A_a6_20 b_a6 at_101 (pc' := 102) rfl (i := 13) rfl (Nat.le_of_ble_eq_true rfl) ?_
  intro T21 h21 W21 K21 A_a6_21
  have A_a6_21 : OA Z h21 a6 .byte [(v5.toInt8.toInt32), (v5.toInt8.toInt32), (v5.toInt8.toInt32), (v5.toInt8.toInt32), (v5.toInt8.toInt32), (v5.toInt8.toInt32), (v5.toInt8.toInt32), (v5.toInt8.toInt32), (v5.toInt8.toInt32), (v5.toInt8.toInt32), (v5.toInt8.toInt32), (v5.toInt8.toInt32), (v5.toInt8.toInt32), (v5.toInt8.toInt32), 0, 0] := A_a6_21
  refine o_dup W21 at_102 rfl (pc' := 103) rfl ?_
  refine o_bipush W21 (v := (14 : Int32)) at_103 rfl (pc' := 105) rfl ?_
  refine o_iload W21 at_105 (v := v5) rfl (pc' := 107) rfl ?_
  refine o_bastore W21 A_a6_21 b_a6 at_107 (pc' := 108) rfl (i := 14) rfl (Nat.le_of_ble_eq_true rfl) ?_
  intro T22 h22 W22 K22 A_a6_22
  have A_a6_22 : OA Z h22 a6 .byte [(v5.toInt8.toInt32), (v5.toInt8.toInt32), (v5.toInt8.toInt32), (v5.toInt8.toInt32), (v5.toInt8.toInt32), (v5.toInt8.toInt32), (v5.toInt8.toInt32), (v5.toInt8.toInt32), (v5.toInt8.toInt32), (v5.toInt8.toInt32), (v5.toInt8.toInt32), (v5.toInt8.toInt32), (v5.toInt8.toInt32), (v5.toInt8.toInt32), (v5.toInt8.toInt32), 0] := A_a6_22
  refine o_dup W22 at_108 rfl (pc' := 109) rfl ?_
  refine o_bipush W22 (v := (15 : Int32)) at_109 rfl (pc' := 111) rfl ?_
  refine o_iload W22 at_111 (v := v5) rfl (pc' := 113) rfl ?_
  refine o_bastore W22 A_a6_22 b_a6 at_113 (pc' := 114) rfl (i := 15) rfl (Nat.le_of_ble_eq_true rfl) ?_
  intro T23 h23 W23 K23 A_a6_23
  have A_a6_23 : OA Z h23 a6 .byte [(v5.toInt8.toInt32), (v5.toInt8.toInt32), (v5.toInt8.toInt32), (v5.toInt8.toInt32), (v5.toInt8.toInt32), (v5.toInt8.toInt32), (v5.toInt8.toInt32), (v5.toInt8.toInt32), (v5.toInt8.toInt32), (v5.toInt8.toInt32), (v5.toInt8.toInt32), (v5.toInt8.toInt32), (v5.toInt8.toInt32), (v5.toInt8.toInt32), (v5.toInt8.toInt32), (v5.toInt8.toInt32)] := A_a6_23
  refine o_astore W23 (L' := #[.val (.int x0), .val (.long x1), .second, .val (.int x2), .val (.int x3), .val (.int v3), .val (.int v4), .val (.int v5), .val (.ref a6), .unset]) at_114 rfl rfl (pc' := 116) rfl ?_
  have A16 : OA Z h23 a6 .byte (List.replicate 16 (v5.toInt8.toInt32)) := A_a6_23
  rw [hf7] at A16
  refine o_aload W23 at_116 (v := (.ref a6)) rfl rfl (pc' := 118) rfl ?_
  refine o_iload W23 at_118 (v := v3) rfl (pc' := 120) rfl ?_
  refine o_lloadN W23 at_120 (v := x1) rfl (pc' := 121) rfl ?_
  refine o_iload W23 at_121 (v := v4) rfl (pc' := 123) rfl ?_
  refine o_callSI W23 (rm1 l Z a0 hw a6 v3 x1 v4 h23 n0 W23.le _ i5 i6 A16 b_a6 hi5 hi6 (by rw [List.length_replicate]; omega) (by omega)) (ow hw 2 rfl) (ow hw 3 rfl) (ow hw 4 rfl) (ow hw 5 rfl) (by decide) (argsL := [(.ref a6), (.int v3), (.long x1), (.int v4)]) (S := []) (lenOf own_pd0 rfl) rfl rfl rfl (wt := 0) rfl (by decide) (by decide) (by decide) (by decide) (kk' := 1) rfl (nn' := 16) rfl at_123 (pc' := 126) rfl ?_
  intro r24 T24 h24 W24 q24 z24
  obtain ⟨hr, AP⟩ := q24
  have hof : (v3 + v4).toInt = v3.toInt + v4.toInt := Jvm.Kit.i32_add (by omega) (by omega)
  refine o_istore W24 (L' := #[.val (.int x0), .val (.long x1), .second, .val (.int x2), .val (.int x3), .val (.int v3), .val (.int v4), .val (.int v5), .val (.ref a6), .val (.int r24)]) at_126 rfl (pc' := 128) rfl ?_
  refine o_iload W24 at_128 (v := r24) rfl (pc' := 130) rfl ?_
  refine o_iload W24 at_130 (v := v3) rfl (pc' := 132) rfl ?_
  refine o_iload W24 at_132 (v := v4) rfl (pc' := 134) rfl ?_
  refine o_iadd W24 at_134 (pc' := 135) rfl ?_
  refine o_icmp_eq W24 at_135 (by decide) (pq := 140) (by decide) (pc' := 138) rfl (fun hc135 => ?_) (fun hc135 => ?_)
  · refine o_aload W24 at_140 (v := (.ref a6)) rfl rfl (pc' := 142) rfl ?_
    refine o_iconst W24 (v := (0 : Int32)) at_142 rfl (pc' := 143) rfl ?_
    refine o_iload W24 at_143 (v := v3) rfl (pc' := 145) rfl ?_
    refine o_iload W24 at_145 (v := v4) rfl (pc' := 147) rfl ?_
    refine o_lloadN W24 at_147 (v := x1) rfl (pc' := 148) rfl ?_
    refine o_iload W24 at_148 (v := v5) rfl (pc' := 150) rfl ?_
    obtain ⟨w0, hw0, hwa0, hwb0⟩ := own_okw x1 v3 v4 (0 : Int32) v5 i5 i6 0 hi5 hi6 rfl hlt5 hlt6 (by decide)
    refine o_callSI W24 (rm2 l Z a0 hw a6 (0 : Int32) v3 v4 x1 v5 h24 n0 W24.le _ w0 0 AP hw0 rfl (by omega) (by omega) hwa0 hwb0) (ow hw 6 rfl) (ow hw 7 rfl) (ow hw 8 rfl) (ow hw 9 rfl) (by decide) (argsL := [(.ref a6), (.int (0 : Int32)), (.int v3), (.int v4), (.long x1), (.int v5)]) (S := []) (lenOf own_pd1 rfl) rfl rfl rfl (wt := 0) rfl (by decide) (by decide) (by decide) (by decide) (kk' := 1) rfl (nn' := 16) rfl at_150 (pc' := 153) rfl ?_
    intro r25 T25 h25 W25 q25 z25
    obtain ⟨q25, rfl⟩ := q25
    have c1 : (1 : Int32).toInt = 1 := rfl
    have hr25 : r25.toInt = 1 := by rw [q25]; rfl
    refine o_if_eq W25 at_153 (by decide) (pq := 410) (by decide) (pc' := 156) rfl (fun hc153 => ?_) (fun hc153 => ?_)
    · exfalso; omega
    · refine o_aload W25 at_156 (v := (.ref a6)) rfl rfl (pc' := 158) rfl ?_
      refine o_iconst W25 (v := (1 : Int32)) at_158 rfl (pc' := 159) rfl ?_
      refine o_iload W25 at_159 (v := v3) rfl (pc' := 161) rfl ?_
      refine o_iload W25 at_161 (v := v4) rfl (pc' := 163) rfl ?_
      refine o_lloadN W25 at_163 (v := x1) rfl (pc' := 164) rfl ?_
      refine o_iload W25 at_164 (v := v5) rfl (pc' := 166) rfl ?_
      obtain ⟨w1, hw1, hwa1, hwb1⟩ := own_okw x1 v3 v4 (1 : Int32) v5 i5 i6 1 hi5 hi6 rfl hlt5 hlt6 (by decide)
      refine o_callSI W25 (rm2 l Z a0 hw a6 (1 : Int32) v3 v4 x1 v5 h24 n0 W25.le _ w1 1 AP hw1 rfl (by omega) (by omega) hwa1 hwb1) (ow hw 6 rfl) (ow hw 7 rfl) (ow hw 8 rfl) (ow hw 9 rfl) (by decide) (argsL := [(.ref a6), (.int (1 : Int32)), (.int v3), (.int v4), (.long x1), (.int v5)]) (S := []) (lenOf own_pd1 rfl) rfl rfl rfl (wt := 0) rfl (by decide) (by decide) (by decide) (by decide) (kk' := 1) rfl (nn' := 16) rfl at_166 (pc' := 169) rfl ?_
      intro r26 T26 h26 W26 q26 z26
      obtain ⟨q26, rfl⟩ := q26
      have c1 : (1 : Int32).toInt = 1 := rfl
      have hr26 : r26.toInt = 1 := by rw [q26]; rfl
      refine o_if_eq W26 at_169 (by decide) (pq := 410) (by decide) (pc' := 172) rfl (fun hc169 => ?_) (fun hc169 => ?_)
      · exfalso; omega
      · refine o_aload W26 at_172 (v := (.ref a6)) rfl rfl (pc' := 174) rfl ?_
        refine o_iconst W26 (v := (2 : Int32)) at_174 rfl (pc' := 175) rfl ?_
        refine o_iload W26 at_175 (v := v3) rfl (pc' := 177) rfl ?_
        refine o_iload W26 at_177 (v := v4) rfl (pc' := 179) rfl ?_
        refine o_lloadN W26 at_179 (v := x1) rfl (pc' := 180) rfl ?_
        refine o_iload W26 at_180 (v := v5) rfl (pc' := 182) rfl ?_
        obtain ⟨w2, hw2, hwa2, hwb2⟩ := own_okw x1 v3 v4 (2 : Int32) v5 i5 i6 2 hi5 hi6 rfl hlt5 hlt6 (by decide)
        refine o_callSI W26 (rm2 l Z a0 hw a6 (2 : Int32) v3 v4 x1 v5 h24 n0 W26.le _ w2 2 AP hw2 rfl (by omega) (by omega) hwa2 hwb2) (ow hw 6 rfl) (ow hw 7 rfl) (ow hw 8 rfl) (ow hw 9 rfl) (by decide) (argsL := [(.ref a6), (.int (2 : Int32)), (.int v3), (.int v4), (.long x1), (.int v5)]) (S := []) (lenOf own_pd1 rfl) rfl rfl rfl (wt := 0) rfl (by decide) (by decide) (by decide) (by decide) (kk' := 1) rfl (nn' := 16) rfl at_182 (pc' := 185) rfl ?_
        intro r27 T27 h27 W27 q27 z27
        obtain ⟨q27, rfl⟩ := q27
        have c1 : (1 : Int32).toInt = 1 := rfl
        have hr27 : r27.toInt = 1 := by rw [q27]; rfl
        refine o_if_eq W27 at_185 (by decide) (pq := 410) (by decide) (pc' := 188) rfl (fun hc185 => ?_) (fun hc185 => ?_)
        · exfalso; omega
        · refine o_aload W27 at_188 (v := (.ref a6)) rfl rfl (pc' := 190) rfl ?_
          refine o_iconst W27 (v := (3 : Int32)) at_190 rfl (pc' := 191) rfl ?_
          refine o_iload W27 at_191 (v := v3) rfl (pc' := 193) rfl ?_
          refine o_iload W27 at_193 (v := v4) rfl (pc' := 195) rfl ?_
          refine o_lloadN W27 at_195 (v := x1) rfl (pc' := 196) rfl ?_
          refine o_iload W27 at_196 (v := v5) rfl (pc' := 198) rfl ?_
          obtain ⟨w3, hw3, hwa3, hwb3⟩ := own_okw x1 v3 v4 (3 : Int32) v5 i5 i6 3 hi5 hi6 rfl hlt5 hlt6 (by decide)
          refine o_callSI W27 (rm2 l Z a0 hw a6 (3 : Int32) v3 v4 x1 v5 h24 n0 W27.le _ w3 3 AP hw3 rfl (by omega) (by omega) hwa3 hwb3) (ow hw 6 rfl) (ow hw 7 rfl) (ow hw 8 rfl) (ow hw 9 rfl) (by decide) (argsL := [(.ref a6), (.int (3 : Int32)), (.int v3), (.int v4), (.long x1), (.int v5)]) (S := []) (lenOf own_pd1 rfl) rfl rfl rfl (wt := 0) rfl (by decide) (by decide) (by decide) (by decide) (kk' := 1) rfl (nn' := 16) rfl at_198 (pc' := 201) rfl ?_
          intro r28 T28 h28 W28 q28 z28
          obtain ⟨q28, rfl⟩ := q28
          have c1 : (1 : Int32).toInt = 1 := rfl
          have hr28 : r28.toInt = 1 := by rw [q28]; rfl
          refine o_if_eq W28 at_201 (by decide) (pq := 410) (by decide) (pc' := 204) rfl (fun hc201 => ?_) (fun hc201 => ?_)
          · exfalso; omega
          · refine o_aload W28 at_204 (v := (.ref a6)) rfl rfl (pc' := 206) rfl ?_
            refine o_iconst W28 (v := (4 : Int32)) at_206 rfl (pc' := 207) rfl ?_
            refine o_iload W28 at_207 (v := v3) rfl (pc' := 209) rfl ?_
            refine o_iload W28 at_209 (v := v4) rfl (pc' := 211) rfl ?_
            refine o_lloadN W28 at_211 (v := x1) rfl (pc' := 212) rfl ?_
            refine o_iload W28 at_212 (v := v5) rfl (pc' := 214) rfl ?_
            obtain ⟨w4, hw4, hwa4, hwb4⟩ := own_okw x1 v3 v4 (4 : Int32) v5 i5 i6 4 hi5 hi6 rfl hlt5 hlt6 (by decide)
            refine o_callSI W28 (rm2 l Z a0 hw a6 (4 : Int32) v3 v4 x1 v5 h24 n0 W28.le _ w4 4 AP hw4 rfl (by omega) (by omega) hwa4 hwb4) (ow hw 6 rfl) (ow hw 7 rfl) (ow hw 8 rfl) (ow hw 9 rfl) (by decide) (argsL := [(.ref a6), (.int (4 : Int32)), (.int v3), (.int v4), (.long x1), (.int v5)]) (S := []) (lenOf own_pd1 rfl) rfl rfl rfl (wt := 0) rfl (by decide) (by decide) (by decide) (by decide) (kk' := 1) rfl (nn' := 16) rfl at_214 (pc' := 217) rfl ?_
            intro r29 T29 h29 W29 q29 z29
            obtain ⟨q29, rfl⟩ := q29
            have c1 : (1 : Int32).toInt = 1 := rfl
            have hr29 : r29.toInt = 1 := by rw [q29]; rfl
            refine o_if_eq W29 at_217 (by decide) (pq := 410) (by decide) (pc' := 220) rfl (fun hc217 => ?_) (fun hc217 => ?_)
            · exfalso; omega
            · refine o_aload W29 at_220 (v := (.ref a6)) rfl rfl (pc' := 222) rfl ?_
              refine o_iconst W29 (v := (5 : Int32)) at_222 rfl (pc' := 223) rfl ?_
              refine o_iload W29 at_223 (v := v3) rfl (pc' := 225) rfl ?_
              refine o_iload W29 at_225 (v := v4) rfl (pc' := 227) rfl ?_
              refine o_lloadN W29 at_227 (v := x1) rfl (pc' := 228) rfl ?_
              refine o_iload W29 at_228 (v := v5) rfl (pc' := 230) rfl ?_
              obtain ⟨w5, hw5, hwa5, hwb5⟩ := own_okw x1 v3 v4 (5 : Int32) v5 i5 i6 5 hi5 hi6 rfl hlt5 hlt6 (by decide)
              refine o_callSI W29 (rm2 l Z a0 hw a6 (5 : Int32) v3 v4 x1 v5 h24 n0 W29.le _ w5 5 AP hw5 rfl (by omega) (by omega) hwa5 hwb5) (ow hw 6 rfl) (ow hw 7 rfl) (ow hw 8 rfl) (ow hw 9 rfl) (by decide) (argsL := [(.ref a6), (.int (5 : Int32)), (.int v3), (.int v4), (.long x1), (.int v5)]) (S := []) (lenOf own_pd1 rfl) rfl rfl rfl (wt := 0) rfl (by decide) (by decide) (by decide) (by decide) (kk' := 1) rfl (nn' := 16) rfl at_230 (pc' := 233) rfl ?_
              intro r30 T30 h30 W30 q30 z30
              obtain ⟨q30, rfl⟩ := q30
              have c1 : (1 : Int32).toInt = 1 := rfl
              have hr30 : r30.toInt = 1 := by rw [q30]; rfl
              refine o_if_eq W30 at_233 (by decide) (pq := 410) (by decide) (pc' := 236) rfl (fun hc233 => ?_) (fun hc233 => ?_)
              · exfalso; omega
              · refine o_aload W30 at_236 (v := (.ref a6)) rfl rfl (pc' := 238) rfl ?_
                refine o_bipush W30 (v := (6 : Int32)) at_238 rfl (pc' := 240) rfl ?_
                refine o_iload W30 at_240 (v := v3) rfl (pc' := 242) rfl ?_
                refine o_iload W30 at_242 (v := v4) rfl (pc' := 244) rfl ?_
                refine o_lloadN W30 at_244 (v := x1) rfl (pc' := 245) rfl ?_
                refine o_iload W30 at_245 (v := v5) rfl (pc' := 247) rfl ?_
                obtain ⟨w6, hw6, hwa6, hwb6⟩ := own_okw x1 v3 v4 (6 : Int32) v5 i5 i6 6 hi5 hi6 rfl hlt5 hlt6 (by decide)
                refine o_callSI W30 (rm2 l Z a0 hw a6 (6 : Int32) v3 v4 x1 v5 h24 n0 W30.le _ w6 6 AP hw6 rfl (by omega) (by omega) hwa6 hwb6) (ow hw 6 rfl) (ow hw 7 rfl) (ow hw 8 rfl) (ow hw 9 rfl) (by decide) (argsL := [(.ref a6), (.int (6 : Int32)), (.int v3), (.int v4), (.long x1), (.int v5)]) (S := []) (lenOf own_pd1 rfl) rfl rfl rfl (wt := 0) rfl (by decide) (by decide) (by decide) (by decide) (kk' := 1) rfl (nn' := 16) rfl at_247 (pc' := 250) rfl ?_
                intro r31 T31 h31 W31 q31 z31
                obtain ⟨q31, rfl⟩ := q31
                have c1 : (1 : Int32).toInt = 1 := rfl
                have hr31 : r31.toInt = 1 := by rw [q31]; rfl
                refine o_if_eq W31 at_250 (by decide) (pq := 410) (by decide) (pc' := 253) rfl (fun hc250 => ?_) (fun hc250 => ?_)
                · exfalso; omega
                · refine o_aload W31 at_253 (v := (.ref a6)) rfl rfl (pc' := 255) rfl ?_
                  refine o_bipush W31 (v := (7 : Int32)) at_255 rfl (pc' := 257) rfl ?_
                  refine o_iload W31 at_257 (v := v3) rfl (pc' := 259) rfl ?_
                  refine o_iload W31 at_259 (v := v4) rfl (pc' := 261) rfl ?_
                  refine o_lloadN W31 at_261 (v := x1) rfl (pc' := 262) rfl ?_
                  refine o_iload W31 at_262 (v := v5) rfl (pc' := 264) rfl ?_
                  obtain ⟨w7, hw7, hwa7, hwb7⟩ := own_okw x1 v3 v4 (7 : Int32) v5 i5 i6 7 hi5 hi6 rfl hlt5 hlt6 (by decide)
                  refine o_callSI W31 (rm2 l Z a0 hw a6 (7 : Int32) v3 v4 x1 v5 h24 n0 W31.le _ w7 7 AP hw7 rfl (by omega) (by omega) hwa7 hwb7) (ow hw 6 rfl) (ow hw 7 rfl) (ow hw 8 rfl) (ow hw 9 rfl) (by decide) (argsL := [(.ref a6), (.int (7 : Int32)), (.int v3), (.int v4), (.long x1), (.int v5)]) (S := []) (lenOf own_pd1 rfl) rfl rfl rfl (wt := 0) rfl (by decide) (by decide) (by decide) (by decide) (kk' := 1) rfl (nn' := 16) rfl at_264 (pc' := 267) rfl ?_
                  intro r32 T32 h32 W32 q32 z32
                  obtain ⟨q32, rfl⟩ := q32
                  have c1 : (1 : Int32).toInt = 1 := rfl
                  have hr32 : r32.toInt = 1 := by rw [q32]; rfl
                  refine o_if_eq W32 at_267 (by decide) (pq := 410) (by decide) (pc' := 270) rfl (fun hc267 => ?_) (fun hc267 => ?_)
                  · exfalso; omega
                  · refine o_aload W32 at_270 (v := (.ref a6)) rfl rfl (pc' := 272) rfl ?_
                    refine o_bipush W32 (v := (8 : Int32)) at_272 rfl (pc' := 274) rfl ?_
                    refine o_iload W32 at_274 (v := v3) rfl (pc' := 276) rfl ?_
                    refine o_iload W32 at_276 (v := v4) rfl (pc' := 278) rfl ?_
                    refine o_lloadN W32 at_278 (v := x1) rfl (pc' := 279) rfl ?_
                    refine o_iload W32 at_279 (v := v5) rfl (pc' := 281) rfl ?_
                    obtain ⟨w8, hw8, hwa8, hwb8⟩ := own_okw x1 v3 v4 (8 : Int32) v5 i5 i6 8 hi5 hi6 rfl hlt5 hlt6 (by decide)
                    refine o_callSI W32 (rm2 l Z a0 hw a6 (8 : Int32) v3 v4 x1 v5 h24 n0 W32.le _ w8 8 AP hw8 rfl (by omega) (by omega) hwa8 hwb8) (ow hw 6 rfl) (ow hw 7 rfl) (ow hw 8 rfl) (ow hw 9 rfl) (by decide) (argsL := [(.ref a6), (.int (8 : Int32)), (.int v3), (.int v4), (.long x1), (.int v5)]) (S := []) (lenOf own_pd1 rfl) rfl rfl rfl (wt := 0) rfl (by decide) (by decide) (by decide) (by decide) (kk' := 1) rfl (nn' := 16) rfl at_281 (pc' := 284) rfl ?_
                    intro r33 T33 h33 W33 q33 z33
                    obtain ⟨q33, rfl⟩ := q33
                    have c1 : (1 : Int32).toInt = 1 := rfl
                    have hr33 : r33.toInt = 1 := by rw [q33]; rfl
                    refine o_if_eq W33 at_284 (by decide) (pq := 410) (by decide) (pc' := 287) rfl (fun hc284 => ?_) (fun hc284 => ?_)
                    · exfalso; omega
                    · refine o_aload W33 at_287 (v := (.ref a6)) rfl rfl (pc' := 289) rfl ?_
                      refine o_bipush W33 (v := (9 : Int32)) at_289 rfl (pc' := 291) rfl ?_
                      refine o_iload W33 at_291 (v := v3) rfl (pc' := 293) rfl ?_
                      refine o_iload W33 at_293 (v := v4) rfl (pc' := 295) rfl ?_
                      refine o_lloadN W33 at_295 (v := x1) rfl (pc' := 296) rfl ?_
                      refine o_iload W33 at_296 (v := v5) rfl (pc' := 298) rfl ?_
                      obtain ⟨w9, hw9, hwa9, hwb9⟩ := own_okw x1 v3 v4 (9 : Int32) v5 i5 i6 9 hi5 hi6 rfl hlt5 hlt6 (by decide)
                      refine o_callSI W33 (rm2 l Z a0 hw a6 (9 : Int32) v3 v4 x1 v5 h24 n0 W33.le _ w9 9 AP hw9 rfl (by omega) (by omega) hwa9 hwb9) (ow hw 6 rfl) (ow hw 7 rfl) (ow hw 8 rfl) (ow hw 9 rfl) (by decide) (argsL := [(.ref a6), (.int (9 : Int32)), (.int v3), (.int v4), (.long x1), (.int v5)]) (S := []) (lenOf own_pd1 rfl) rfl rfl rfl (wt := 0) rfl (by decide) (by decide) (by decide) (by decide) (kk' := 1) rfl (nn' := 16) rfl at_298 (pc' := 301) rfl ?_
                      intro r34 T34 h34 W34 q34 z34
                      obtain ⟨q34, rfl⟩ := q34
                      have c1 : (1 : Int32).toInt = 1 := rfl
                      have hr34 : r34.toInt = 1 := by rw [q34]; rfl
                      refine o_if_eq W34 at_301 (by decide) (pq := 410) (by decide) (pc' := 304) rfl (fun hc301 => ?_) (fun hc301 => ?_)
                      · exfalso; omega
                      · refine o_aload W34 at_304 (v := (.ref a6)) rfl rfl (pc' := 306) rfl ?_
                        refine o_bipush W34 (v := (10 : Int32)) at_306 rfl (pc' := 308) rfl ?_
                        refine o_iload W34 at_308 (v := v3) rfl (pc' := 310) rfl ?_
                        refine o_iload W34 at_310 (v := v4) rfl (pc' := 312) rfl ?_
                        refine o_lloadN W34 at_312 (v := x1) rfl (pc' := 313) rfl ?_
                        refine o_iload W34 at_313 (v := v5) rfl (pc' := 315) rfl ?_
                        obtain ⟨w10, hw10, hwa10, hwb10⟩ := own_okw x1 v3 v4 (10 : Int32) v5 i5 i6 10 hi5 hi6 rfl hlt5 hlt6 (by decide)
                        refine o_callSI W34 (rm2 l Z a0 hw a6 (10 : Int32) v3 v4 x1 v5 h24 n0 W34.le _ w10 10 AP hw10 rfl (by omega) (by omega) hwa10 hwb10) (ow hw 6 rfl) (ow hw 7 rfl) (ow hw 8 rfl) (ow hw 9 rfl) (by decide) (argsL := [(.ref a6), (.int (10 : Int32)), (.int v3), (.int v4), (.long x1), (.int v5)]) (S := []) (lenOf own_pd1 rfl) rfl rfl rfl (wt := 0) rfl (by decide) (by decide) (by decide) (by decide) (kk' := 1) rfl (nn' := 16) rfl at_315 (pc' := 318) rfl ?_
                        intro r35 T35 h35 W35 q35 z35
                        obtain ⟨q35, rfl⟩ := q35
                        have c1 : (1 : Int32).toInt = 1 := rfl
                        have hr35 : r35.toInt = 1 := by rw [q35]; rfl
                        refine o_if_eq W35 at_318 (by decide) (pq := 410) (by decide) (pc' := 321) rfl (fun hc318 => ?_) (fun hc318 => ?_)
                        · exfalso; omega
                        · refine o_aload W35 at_321 (v := (.ref a6)) rfl rfl (pc' := 323) rfl ?_
                          refine o_bipush W35 (v := (11 : Int32)) at_323 rfl (pc' := 325) rfl ?_
                          refine o_iload W35 at_325 (v := v3) rfl (pc' := 327) rfl ?_
                          refine o_iload W35 at_327 (v := v4) rfl (pc' := 329) rfl ?_
                          refine o_lloadN W35 at_329 (v := x1) rfl (pc' := 330) rfl ?_
                          refine o_iload W35 at_330 (v := v5) rfl (pc' := 332) rfl ?_
                          obtain ⟨w11, hw11, hwa11, hwb11⟩ := own_okw x1 v3 v4 (11 : Int32) v5 i5 i6 11 hi5 hi6 rfl hlt5 hlt6 (by decide)
                          refine o_callSI W35 (rm2 l Z a0 hw a6 (11 : Int32) v3 v4 x1 v5 h24 n0 W35.le _ w11 11 AP hw11 rfl (by omega) (by omega) hwa11 hwb11) (ow hw 6 rfl) (ow hw 7 rfl) (ow hw 8 rfl) (ow hw 9 rfl) (by decide) (argsL := [(.ref a6), (.int (11 : Int32)), (.int v3), (.int v4), (.long x1), (.int v5)]) (S := []) (lenOf own_pd1 rfl) rfl rfl rfl (wt := 0) rfl (by decide) (by decide) (by decide) (by decide) (kk' := 1) rfl (nn' := 16) rfl at_332 (pc' := 335) rfl ?_
                          intro r36 T36 h36 W36 q36 z36
                          obtain ⟨q36, rfl⟩ := q36
                          have c1 : (1 : Int32).toInt = 1 := rfl
                          have hr36 : r36.toInt = 1 := by rw [q36]; rfl
                          refine o_if_eq W36 at_335 (by decide) (pq := 410) (by decide) (pc' := 338) rfl (fun hc335 => ?_) (fun hc335 => ?_)
                          · exfalso; omega
                          · refine o_aload W36 at_338 (v := (.ref a6)) rfl rfl (pc' := 340) rfl ?_
                            refine o_bipush W36 (v := (12 : Int32)) at_340 rfl (pc' := 342) rfl ?_
                            refine o_iload W36 at_342 (v := v3) rfl (pc' := 344) rfl ?_
                            refine o_iload W36 at_344 (v := v4) rfl (pc' := 346) rfl ?_
                            refine o_lloadN W36 at_346 (v := x1) rfl (pc' := 347) rfl ?_
                            refine o_iload W36 at_347 (v := v5) rfl (pc' := 349) rfl ?_
                            obtain ⟨w12, hw12, hwa12, hwb12⟩ := own_okw x1 v3 v4 (12 : Int32) v5 i5 i6 12 hi5 hi6 rfl hlt5 hlt6 (by decide)
                            refine o_callSI W36 (rm2 l Z a0 hw a6 (12 : Int32) v3 v4 x1 v5 h24 n0 W36.le _ w12 12 AP hw12 rfl (by omega) (by omega) hwa12 hwb12) (ow hw 6 rfl) (ow hw 7 rfl) (ow hw 8 rfl) (ow hw 9 rfl) (by decide) (argsL := [(.ref a6), (.int (12 : Int32)), (.int v3), (.int v4), (.long x1), (.int v5)]) (S := []) (lenOf own_pd1 rfl) rfl rfl rfl (wt := 0) rfl (by decide) (by decide) (by decide) (by decide) (kk' := 1) rfl (nn' := 16) rfl at_349 (pc' := 352) rfl ?_
                            intro r37 T37 h37 W37 q37 z37
                            obtain ⟨q37, rfl⟩ := q37
                            have c1 : (1 : Int32).toInt = 1 := rfl
                            have hr37 : r37.toInt = 1 := by rw [q37]; rfl
                            refine o_if_eq W37 at_352 (by decide) (pq := 410) (by decide) (pc' := 355) rfl (fun hc352 => ?_) (fun hc352 => ?_)
                            · exfalso; omega
                            · refine o_aload W37 at_355 (v := (.ref a6)) rfl rfl (pc' := 357) rfl ?_
                              refine o_bipush W37 (v := (13 : Int32)) at_357 rfl (pc' := 359) rfl ?_
                              refine o_iload W37 at_359 (v := v3) rfl (pc' := 361) rfl ?_
                              refine o_iload W37 at_361 (v := v4) rfl (pc' := 363) rfl ?_
                              refine o_lloadN W37 at_363 (v := x1) rfl (pc' := 364) rfl ?_
                              refine o_iload W37 at_364 (v := v5) rfl (pc' := 366) rfl ?_
                              obtain ⟨w13, hw13, hwa13, hwb13⟩ := own_okw x1 v3 v4 (13 : Int32) v5 i5 i6 13 hi5 hi6 rfl hlt5 hlt6 (by decide)
                              refine o_callSI W37 (rm2 l Z a0 hw a6 (13 : Int32) v3 v4 x1 v5 h24 n0 W37.le _ w13 13 AP hw13 rfl (by omega) (by omega) hwa13 hwb13) (ow hw 6 rfl) (ow hw 7 rfl) (ow hw 8 rfl) (ow hw 9 rfl) (by decide) (argsL := [(.ref a6), (.int (13 : Int32)), (.int v3), (.int v4), (.long x1), (.int v5)]) (S := []) (lenOf own_pd1 rfl) rfl rfl rfl (wt := 0) rfl (by decide) (by decide) (by decide) (by decide) (kk' := 1) rfl (nn' := 16) rfl at_366 (pc' := 369) rfl ?_
                              intro r38 T38 h38 W38 q38 z38
                              obtain ⟨q38, rfl⟩ := q38
                              have c1 : (1 : Int32).toInt = 1 := rfl
                              have hr38 : r38.toInt = 1 := by rw [q38]; rfl
                              refine o_if_eq W38 at_369 (by decide) (pq := 410) (by decide) (pc' := 372) rfl (fun hc369 => ?_) (fun hc369 => ?_)
                              · exfalso; omega
                              · refine o_aload W38 at_372 (v := (.ref a6)) rfl rfl (pc' := 374) rfl ?_
                                refine o_bipush W38 (v := (14 : Int32)) at_374 rfl (pc' := 376) rfl ?_
                                refine o_iload W38 at_376 (v := v3) rfl (pc' := 378) rfl ?_
                                refine o_iload W38 at_378 (v := v4) rfl (pc' := 380) rfl ?_
                                refine o_lloadN W38 at_380 (v := x1) rfl (pc' := 381) rfl ?_
                                refine o_iload W38 at_381 (v := v5) rfl (pc' := 383) rfl ?_
                                obtain ⟨w14, hw14, hwa14, hwb14⟩ := own_okw x1 v3 v4 (14 : Int32) v5 i5 i6 14 hi5 hi6 rfl hlt5 hlt6 (by decide)
                                refine o_callSI W38 (rm2 l Z a0 hw a6 (14 : Int32) v3 v4 x1 v5 h24 n0 W38.le _ w14 14 AP hw14 rfl (by omega) (by omega) hwa14 hwb14) (ow hw 6 rfl) (ow hw 7 rfl) (ow hw 8 rfl) (ow hw 9 rfl) (by decide) (argsL := [(.ref a6), (.int (14 : Int32)), (.int v3), (.int v4), (.long x1), (.int v5)]) (S := []) (lenOf own_pd1 rfl) rfl rfl rfl (wt := 0) rfl (by decide) (by decide) (by decide) (by decide) (kk' := 1) rfl (nn' := 16) rfl at_383 (pc' := 386) rfl ?_
                                intro r39 T39 h39 W39 q39 z39
                                obtain ⟨q39, rfl⟩ := q39
                                have c1 : (1 : Int32).toInt = 1 := rfl
                                have hr39 : r39.toInt = 1 := by rw [q39]; rfl
                                refine o_if_eq W39 at_386 (by decide) (pq := 410) (by decide) (pc' := 389) rfl (fun hc386 => ?_) (fun hc386 => ?_)
                                · exfalso; omega
                                · refine o_aload W39 at_389 (v := (.ref a6)) rfl rfl (pc' := 391) rfl ?_
                                  refine o_bipush W39 (v := (15 : Int32)) at_391 rfl (pc' := 393) rfl ?_
                                  refine o_iload W39 at_393 (v := v3) rfl (pc' := 395) rfl ?_
                                  refine o_iload W39 at_395 (v := v4) rfl (pc' := 397) rfl ?_
                                  refine o_lloadN W39 at_397 (v := x1) rfl (pc' := 398) rfl ?_
                                  refine o_iload W39 at_398 (v := v5) rfl (pc' := 400) rfl ?_
                                  obtain ⟨w15, hw15, hwa15, hwb15⟩ := own_okw x1 v3 v4 (15 : Int32) v5 i5 i6 15 hi5 hi6 rfl hlt5 hlt6 (by decide)
                                  refine o_callSI W39 (rm2 l Z a0 hw a6 (15 : Int32) v3 v4 x1 v5 h24 n0 W39.le _ w15 15 AP hw15 rfl (by omega) (by omega) hwa15 hwb15) (ow hw 6 rfl) (ow hw 7 rfl) (ow hw 8 rfl) (ow hw 9 rfl) (by decide) (argsL := [(.ref a6), (.int (15 : Int32)), (.int v3), (.int v4), (.long x1), (.int v5)]) (S := []) (lenOf own_pd1 rfl) rfl rfl rfl (wt := 0) rfl (by decide) (by decide) (by decide) (by decide) (kk' := 1) rfl (nn' := 16) rfl at_400 (pc' := 403) rfl ?_
                                  intro r40 T40 h40 W40 q40 z40
                                  obtain ⟨q40, rfl⟩ := q40
                                  have c1 : (1 : Int32).toInt = 1 := rfl
                                  have hr40 : r40.toInt = 1 := by rw [q40]; rfl
                                  refine o_if_eq W40 at_403 (by decide) (pq := 410) (by decide) (pc' := 406) rfl (fun hc403 => ?_) (fun hc403 => ?_)
                                  · exfalso; omega
                                  · refine o_iconst W40 (v := (1 : Int32)) at_406 rfl (pc' := 407) rfl ?_
                                    refine o_goto W40 at_407 (by decide) (pq := 411) (by decide) ?_
                                    refine o_retN W40 (t := .boolean) rfl (by simp) at_411 (by decide) (by decide) ?_
                                    exact rfl
  · exfalso; omega
set_option maxRecDepth 65536 in
theorem comes_1 {Post : Tables → Env → Array Value → State → Outcome → State → Prop} (hpost : ∀ tb e args s v u, (limb_1_1.after args s (.returned v) u = true ∧ limb_1_2.after args s (.returned v) u = true ∧ True) → FrameEnd s (.returned v) u (Jvm.fieldLocs frame_1_writes args s ++ Jvm.arrayLocs frame_1_arrays args s ++ Jvm.staticLocs frame_1_statics s) 16 128 → Post tb e args s (.returned v) u) :
    ArmFor flags0 classFile x code maxLocals ret World_1 tables_1 room_1 Calls_1 rest_1 Pre_1 Post := by
  intro l hfl _ _ p e ha hc hk s m args below hf hA hF happ hP
  obtain ⟨hcalls, hrest, hpre⟩ := hP
  obtain ⟨-, -, -, hnamed, -, -, -, hat⟩ := (Spec.applies_iff hf).mp happ
  obtain ⟨hg, hn⟩ := and_e (Cond.before_iff.mp (show (Jvm.Cond.and given_1 narrow_1).before args s = true from hpre))
  obtain ⟨g0, hg1⟩ := and_e hg
  obtain ⟨q0, hg2⟩ := and_e hg1
  obtain ⟨q1, hg3⟩ := and_e hg2
  obtain ⟨q2, hg4⟩ := and_e hg3
  have q3 := hg4
  obtain ⟨w0, w1, w2, w3, rfl⟩ : ∃ w0 w1 w2 w3 : Value, args = #[w0, w1, w2, w3] := by
    have hs : args.size = 4 := by simpa [Cond.value, given_1] using g0
    obtain ⟨L⟩ := args
    match L, hs with
    | [w0, w1, w2, w3], _ => exact ⟨w0, w1, w2, w3, rfl⟩
  have hw := fun d (hd : d ∈ tables_1) => atoms_spec (ws := Jvm.Cond.code x code maxLocals ret :: tables_1) hat d (List.mem_cons_of_mem _ hd)
  obtain ⟨i0, ei0⟩ := is_v q0
  obtain rfl : w0 = (.int i0) := Option.some.inj ei0
  obtain ⟨i1, ei1⟩ := isL_v q1
  obtain rfl : w1 = (.long i1) := Option.some.inj ei1
  obtain ⟨i2, ei2⟩ := is_v q2
  obtain rfl : w2 = (.int i2) := Option.some.inj ei2
  obtain ⟨i3, ei3⟩ := is_v q3
  obtain rfl : w3 = (.int i3) := Option.some.inj ei3
  obtain ⟨n, o, h1, h2, h3, _, L, rfl, ⟨rfl, -, N⟩, hq⟩ := own_law l s _ hw i0 i1 i2 i3 s.heap s.heap.size (Nat.le_refl _) p e ha hc hk s m _ below hf ((Spec.applies_iff_loose hf).mp happ).1 ⟨rfl, State.Warmed39.refl s, rfl⟩ trivial
  refine ⟨n, _, h1, h2, h3, hpost _ _ _ _ _ _ ⟨Cond.after_iff.mpr rfl, Cond.after_iff.mpr (eq_i res_at (Term.int_eval (1)) rfl), trivial⟩ ⟨hq.1, hq.2.1, (hq.2.2.sift fun y hy => Or.inr (N y hy)).mono (by decide) (by decide)⟩⟩
theorem main_1_1 : Claimed_1_1 := comes_1 fun _ _ _ _ _ _ h hF => ⟨h.1, hF⟩
theorem main_1_2 : Claimed_1_2 := comes_1 fun _ _ _ _ _ _ h hF => ⟨h.2.1, hF⟩
end Jvm.Pilot.@@N@@
namespace Jvm.Pilot.@@N@@
open Jvm Jvm.ClassFile Sem Op Lib Jvm.Free Jvm.Stand Jvm.Pilot.@@N@@.Jvm.D
/-! MADE BY PROGRAM (witnessworld.py) out of the Statement's table words and the real class files: 9 classes; the members and pool entries that the words name. The judged class is class 1, her method 1. -/
namespace start1
open Jvm.ClassFile
def u (s : String) : CpInfo := .utf8 (stringToUtf16 s)
/-- a pool by its gaps: so many unusable entries, then the entry; so many at the end -/
def gap : Nat → List CpInfo → List CpInfo
  | 0, r => r
  | n + 1, r => .unusable :: gap n r
def poolList (es : List (Nat × CpInfo)) (last : Nat) : List CpInfo := es.foldr (fun e r => gap e.1 (e.2 :: r)) (gap last [])
def pool (es : List (Nat × CpInfo)) (last : Nat) : Array CpInfo := ⟨poolList es last⟩
def fileOf (pool : Array CpInfo) (this : Nat) (attrs : Array Attribute := #[]) (ms : Array MethodInfo := #[]) (fl : Nat := 33) (sup : Nat := 0) (ifs : Array Nat := #[]) (fds : Array FieldInfo := #[]) : ClassFile where
  minorVersion := 0
  majorVersion := 65
  constantPool := pool
  accessFlags := fl
  thisClass := this
  superClass := sup
  interfaces := ifs
  fields := fds
  methods := ms
  attributes := attrs
def plain (name : String) (sup : Option ClassId) : Class where
  name := name
  kind := .ordinary
  loader := none
  accessFlags := 33
  super := sup
  interfaces := #[]
  cf := none
  fields := #[]
  methods := #[]
  instanceTypes := #[]
  staticTypes := #[]
  resolved := #[]
  callSites := []
  init := .initialized
  statics := none
  mirror := none

def pool0 : Array CpInfo := pool [(5, u "<init>"), (0, u "()V"), (1, .class_ 10), (1, u "java/lang/Object")] 113

def k0m0 : Method := { name := "<init>", desc := "()V", sig := { parameters := [], returnType := none }, accessFlags := 1, code := none }
/-- java/lang/Object -/
def k0 : Class := { plain "java/lang/Object" none with
  accessFlags := 33
  interfaces := #[]
  cf := some (fileOf pool0 8 #[] #[{ accessFlags := 1, nameIndex := 5, descriptorIndex := 6, attributes := #[] }] 33 0 #[] #[])
  fields := #[]
  methods := #[k0m0]
  instanceTypes := #[]
  staticTypes := #[]
  resolved := Array.replicate 124 none
  statics := none }

def pool1 : Array CpInfo := pool [(2, .class_ 4), (1, u "java/lang/Object"), (0, u "<init>"), (0, u "()V"), (0, .integer 2147483647), (0, .methodref 9 10), (0, .class_ 11), (0, .nameAndType 12 13), (0, u "com/example/plainwire/plainwire/wire/BigEndian"), (0, u "put"), (0, u "([BIJI)I"), (0, .methodref 15 16), (0, .class_ 17), (0, .nameAndType 18 19), (0, u "com/example/plainwire/plainwire/wire/BigEndianPutPinLaw"), (0, u "ok"), (0, u "([BIIIJB)Z"), (2, u "law"), (0, u "(IJII)Z")] 5

def k1m0 : Method := { name := "<init>", desc := "()V", sig := { parameters := [], returnType := none }, accessFlags := 1, code := none }
def k1c1 : Code := { maxStack := 7, maxLocals := 10, code := code, exceptionTable := #[], attributes := #[] }
def k1m1 : Method := { name := "law", desc := "(IJII)Z", sig := { parameters := [.int, .long, .int, .int], returnType := some .boolean }, accessFlags := 9, code := some k1c1 }
def k1c2 : Code := { maxStack := 5, maxLocals := 8, code := method_3_code, exceptionTable := #[], attributes := #[] }
def k1m2 : Method := { name := "ok", desc := "([BIIIJB)Z", sig := { parameters := [(.array .byte), .int, .int, .int, .long, .byte], returnType := some .boolean }, accessFlags := 10, code := some k1c2 }
/-- com/example/plainwire/plainwire/wire/BigEndianPutPinLaw -/
def k1 : Class := { plain "com/example/plainwire/plainwire/wire/BigEndianPutPinLaw" (some 0) with
  accessFlags := 49
  interfaces := #[]
  cf := some (fileOf pool1 15 #[] #[{ accessFlags := 1, nameIndex := 5, descriptorIndex := 6, attributes := #[] }, { accessFlags := 9, nameIndex := 22, descriptorIndex := 23, attributes := #[] }, { accessFlags := 10, nameIndex := 18, descriptorIndex := 19, attributes := #[] }] 49 2 #[] #[])
  fields := #[]
  methods := #[k1m0, k1m1, k1m2]
  instanceTypes := #[]
  staticTypes := #[]
  resolved := Array.replicate 29 none
  statics := none }

def pool2 : Array CpInfo := pool [(2, .class_ 4), (1, u "java/lang/Object"), (0, u "<init>"), (0, u "()V"), (0, .class_ 8), (0, u "com/example/plainwire/plainwire/wire/BigEndian"), (5, u "put"), (0, u "([BIJI)I")] 2

def k2m0 : Method := { name := "<init>", desc := "()V", sig := { parameters := [], returnType := none }, accessFlags := 2, code := none }
def k2c1 : Code := { maxStack := 7, maxLocals := 6, code := prog_32_method_3_code, exceptionTable := #[], attributes := #[] }
def k2m1 : Method := { name := "put", desc := "([BIJI)I", sig := { parameters := [(.array .byte), .int, .long, .int], returnType := some .int }, accessFlags := 8, code := some k2c1 }
/-- com/example/plainwire/plainwire/wire/BigEndian -/
def k2 : Class := { plain "com/example/plainwire/plainwire/wire/BigEndian" (some 0) with
  accessFlags := 48
  interfaces := #[]
  cf := some (fileOf pool2 7 #[] #[{ accessFlags := 2, nameIndex := 5, descriptorIndex := 6, attributes := #[] }, { accessFlags := 8, nameIndex := 14, descriptorIndex := 15, attributes := #[] }] 48 2 #[] #[])
  fields := #[]
  methods := #[k2m0, k2m1]
  instanceTypes := #[]
  staticTypes := #[]
  resolved := Array.replicate 18 none
  statics := none }

def pool3 : Array CpInfo := pool [(1, u "java/lang/Cloneable"), (0, .class_ 1), (0, u "java/lang/Object"), (0, .class_ 3)] 3

/-- java/lang/Cloneable -/
def k3 : Class := { plain "java/lang/Cloneable" (some 0) with
  accessFlags := 1537
  interfaces := #[]
  cf := some (fileOf pool3 2 #[] #[] 1537 4 #[] #[])
  fields := #[]
  methods := #[]
  instanceTypes := #[]
  staticTypes := #[]
  resolved := Array.replicate 8 none
  statics := none }

def pool4 : Array CpInfo := pool [(1, u "java/io/Serializable"), (0, .class_ 1), (0, u "java/lang/Object"), (0, .class_ 3)] 3

/-- java/io/Serializable -/
def k4 : Class := { plain "java/io/Serializable" (some 0) with
  accessFlags := 1537
  interfaces := #[]
  cf := some (fileOf pool4 2 #[] #[] 1537 4 #[] #[])
  fields := #[]
  methods := #[]
  instanceTypes := #[]
  staticTypes := #[]
  resolved := Array.replicate 8 none
  statics := none }

/-- the primitive byte -/
def k5 : Class := { plain "byte" none with kind := .primitive 'B', accessFlags := 0x411 }
/-- [B -/
def k6 : Class := { plain "[B" (some 0) with kind := .array 5 .byte, interfaces := #[3, 4], accessFlags := 1041 }

/-- the primitive int -/
def k7 : Class := { plain "int" none with kind := .primitive 'I', accessFlags := 0x411 }
/-- [I -/
def k8 : Class := { plain "[I" (some 0) with kind := .array 7 .int, interfaces := #[3, 4], accessFlags := 1041 }

def heap : Heap := #[]
def classes : Array Class := #[k0, k1, k2, k3, k4, k5, k6, k7, k8]
def interned : List (Array UInt16 × Addr) := []
def slotsUsed : Nat := 0
def theMethod : MethodId := ⟨1, 1⟩
def args0 : Array Value := #[.int 5, .long 77, .int 2, .int 3]
def aboutOver (below : List Frame) : State where
  vm := { classes := classes, interned := interned.toArray }
  heap := heap
  slotsUsed := slotsUsed
  threads := #[{ frames := .invoking theMethod args0 :: below }]
def below0 : List Frame := [.native { method := ⟨0, 0⟩, args := #[] }]
def about1 : State := aboutOver below0
def p0 : Program := .bare "" "" ""
def e0 : Env := launch0.env 0 0 0
theorem w_frames : about1.frames = Frame.invoking theMethod args0 :: below0 := rfl
set_option maxRecDepth 65536 in
theorem w_args : argsFit about1.vm theMethod args0 = true := by decide +kernel
set_option maxRecDepth 65536 in
theorem w_heap : heapFits about1 = true := by decide +kernel
set_option maxRecDepth 65536 in
theorem w_runnable : about1.curStatus? = some .runnable := by decide +kernel
set_option maxRecDepth 65536 in
theorem w_alone : about1.alone = true := by decide +kernel
set_option maxRecDepth 65536 in
theorem w_named : about1.methodNamed? x = some theMethod := by decide +kernel
set_option maxRecDepth 65536 in
theorem w_hears : about1.hears theMethod below0 = true := by decide +kernel
set_option maxRecDepth 65536 in
theorem w_ripe : about1.ripe theMethod args0 below0 = true := by decide +kernel
theorem w_running : about1.status = .running := rfl
set_option maxRecDepth 65536 in
theorem w_room : about1.hasRoom e0.platform room_1 = true :=
  launch0.hasRoom_least _ room_1 (by decide +kernel) (by decide +kernel) (by decide +kernel) (by decide +kernel) (by decide +kernel) (by decide +kernel)
theorem allAtoms_all (ts : List Jvm.Cond) (a : Array Jvm.Value) (st : Jvm.State) : (allAtoms ts).before a st = ts.all (fun c => c.before a st) := by
  induction ts with
  | nil => rfl
  | cons c t ih =>
    show (Jvm.Cond.and c (allAtoms t)).before a st = _
    rw [Jvm.Cond.before_and, ih, List.all_cons]
def words1 : List Jvm.Cond := Jvm.Cond.code x code maxLocals ret :: tables_1
/-- a 'code' word, met by the world's own term for the bytes: nothing is compared byte by byte -/
theorem code_word {y : MethodName} {bytes : ByteArray} {mx : Nat} {rt : Option FieldType} {a : Array Value} {s : State} {m : MethodId} {meth : Method} {c : Code} (h1 : s.methodNamed? y = some m) (h2 : s.vm.method? m = some meth) (h3 : meth.code = some c) (h4 : c.code = bytes)
    (h5 : (c.maxLocals == mx && c.exceptionTable.isEmpty && decide (c.maxStack ≤ mostOperands) && decide (meth.sig.returnType = rt) && !meth.locks && decide (parseMethodDescriptor y.desc = some meth.sig)) = true) : (Jvm.Cond.code y bytes mx rt).before a s = true := by
  simp only [Bool.and_eq_true, beq_iff_eq, Bool.not_eq_true', decide_eq_true_eq] at h5
  obtain ⟨⟨⟨⟨⟨g1, g2⟩, g3⟩, g4⟩, g5⟩, g6⟩ := h5
  simp [Cond.before, Cond.holds, Cond.value, h1, h2, h3, h4, g1, g2, g3, g4, g5, g6]
def isCode : Jvm.Cond → Bool
  | .code _ _ _ _ => true
  | _ => false
theorem all_split {L : List Jvm.Cond} {P : Jvm.Cond → Bool} (h1 : L.all (fun c => isCode c || P c) = true) (h2 : ∀ c ∈ L.filter isCode, P c = true) : L.all P = true := by
  refine List.all_eq_true.mpr fun c hc => ?_
  have h := List.all_eq_true.mp h1 c hc
  rcases Bool.eq_false_or_eq_true (isCode c) with hi | hi
  · exact h2 c (List.mem_filter.mpr ⟨hc, hi⟩)
  · simpa [hi] using h
set_option maxRecDepth 65536 in
theorem w_c0 : (Jvm.Cond.code x code maxLocals ret).before args0 about1 = true := code_word (m := ⟨1, 1⟩) (meth := k1m1) (c := k1c1) (by decide +kernel) rfl rfl rfl (by decide +kernel)
set_option maxRecDepth 65536 in
theorem w_c1 : (Jvm.Cond.code ({ cls := "com/example/plainwire/plainwire/wire/BigEndian", name := "put", desc := "([BIJI)I" } : Jvm.MethodName) prog_32_method_3_code (6 : Nat) (Option.some Jvm.ClassFile.FieldType.int)).before args0 about1 = true := code_word (m := ⟨2, 1⟩) (meth := k2m1) (c := k2c1) (by decide +kernel) rfl rfl rfl (by decide +kernel)
set_option maxRecDepth 65536 in
theorem w_c2 : (Jvm.Cond.code ({ cls := "com/example/plainwire/plainwire/wire/BigEndianPutPinLaw", name := "ok", desc := "([BIIIJB)Z" } : Jvm.MethodName) method_3_code (8 : Nat) (Option.some Jvm.ClassFile.FieldType.boolean)).before args0 about1 = true := code_word (m := ⟨1, 2⟩) (meth := k1m2) (c := k1c2) (by decide +kernel) rfl rfl rfl (by decide +kernel)
def codes1 : List Jvm.Cond := [Jvm.Cond.code x code maxLocals ret, Jvm.Cond.code ({ cls := "com/example/plainwire/plainwire/wire/BigEndian", name := "put", desc := "([BIJI)I" } : Jvm.MethodName) prog_32_method_3_code (6 : Nat) (Option.some Jvm.ClassFile.FieldType.int), Jvm.Cond.code ({ cls := "com/example/plainwire/plainwire/wire/BigEndianPutPinLaw", name := "ok", desc := "([BIIIJB)Z" } : Jvm.MethodName) method_3_code (8 : Nat) (Option.some Jvm.ClassFile.FieldType.boolean)]
set_option maxRecDepth 65536 in
theorem codes_eq : words1.filter isCode = codes1 := rfl
theorem w_codes : ∀ c ∈ words1.filter isCode, c.before args0 about1 = true := by
  rw [codes_eq]
  intro c hc
  simp only [codes1, List.mem_cons, List.not_mem_nil, or_false] at hc
  rcases hc with rfl | rfl | rfl
  · exact w_c0
  · exact w_c1
  · exact w_c2
set_option maxRecDepth 65536 in
theorem w_t1 : words1.all (fun c => isCode c || c.before args0 about1) = true := by decide +kernel
theorem w_tables : (allAtoms (Jvm.Cond.code x code maxLocals ret :: tables_1)).before args0 about1 = true := by
  rw [allAtoms_all]
  show words1.all (fun c => c.before args0 about1) = true
  refine all_split ?_ w_codes
  rw [w_t1]
set_option maxRecDepth 65536 in
theorem w_case : (Jvm.Cond.and given_1 narrow_1).before args0 about1 = true := by decide +kernel
theorem w_applies : (headSpec (Jvm.Cond.code x code maxLocals ret :: tables_1) room_1).applies x e0.platform about1 = true :=
  (Spec.applies_iff w_frames).mpr ⟨w_running, w_runnable, w_alone, w_named, w_hears, w_ripe, w_room, w_tables⟩
theorem atStart : AtStart classFile x code maxLocals ret World_1 tables_1 room_1 Calls_1 rest_1 Pre_1 launch0 p0 e0 about1 theMethod args0 below0 :=
  ⟨lists_1, trivial, launch0.admits_env _ _ _, launch0.least_env, fairChoices_fair.cas, fairChoices_fair.clock, w_frames, w_args, w_heap, w_applies, trivial, trivial, w_case⟩
end start1
theorem witness_1 : WitnessClaimed_1 := ⟨start1.p0, start1.e0, start1.about1, start1.theMethod, start1.args0, start1.below0, start1.atStart⟩
end Jvm.Pilot.@@N@@
