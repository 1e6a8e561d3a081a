import JvmDerived
import JvmDerived.Pilot.@@N@@Statement
import JvmDerived.Pilot.@@N@@Code
set_option linter.unusedVariables false
set_option linter.unusedSimpArgs false
@@BLOCK:NumsL.lean.txt@@
namespace Jvm.Pilot.@@N@@
open Jvm Jvm.ClassFile Sem Op Lib Jvm.Free Jvm.Stand Jvm.LawKit Jvm.RoadKit Bundle Jvm.Pilot.@@N@@.Jvm.D
section OwnKit
variable {p : Program} {l : Launch} {e : Env} {R : Room} {s : State} {m : MethodId} {args : Array Value} {below : List Frame} {meth : Method} {c : Code} {Z : State} {B : ByteArray} {ml : Nat} {own nm : String} {rt : Option FieldType} {n0 z0 n1 z1 kc ns : Nat} {EN : Outcome → State → List Loc → Prop} {T : State} {h h' : Heap} {kk nn kk' nn' : Nat} {Q : Option Value → Heap → Prop} {pc pc' pq : Nat} {L L' : Array Slot} {S : List Value} {a0 : Array Value}
/-- what one body's walk keeps throughout -/
def OCx (p : Program) (s : State) (m : MethodId) (meth : Method) (c : Code) (Z : State) (B : ByteArray) (ml : Nat) (own nm : String) (rt : Option FieldType) : Prop :=
  p.tables.exec = Jvm.exec ∧ Z.Warmed39 s.vm ∧ c.code = B ∧ c.maxLocals = ml ∧ s.vm.findClass own = some m.cls ∧ meth.name = nm ∧ meth.sig.returnType = rt ∧ meth.locks = false
/-- where the walk stands: the state T, its heap h, what was made so far -/
def OW (p : Program) (l : Launch) (e : Env) (R : Room) (s : State) (m : MethodId) (args : Array Value) (below : List Frame) (meth : Method) (c : Code) (Z : State) (B : ByteArray) (ml : Nat) (own nm : String) (rt : Option FieldType) (n0 z0 : Nat) (T : State) (h : Heap) (kk nn : Nat) : Prop :=
  OCx p s m meth c Z B ml own nm rt ∧ n0 ≤ z0 ∧ z0 ≤ h.size ∧ T.heap = h ∧ ∃ locs, Stand p l e R s m args below meth c T locs kk nn ∧ Fr n0 locs
/-- what a body leaves: its own word, and that nothing old was written or lost -/
def OQ (Q : Option Value → Heap → Prop) (z0 n0 : Nat) (v : Option Value) (h : Heap) (L : List Loc) : Prop := Q v h ∧ z0 ≤ h.size ∧ Fr n0 L
/-- the run from here ends well -/
def OF (p : Program) (e : Env) (below : List Frame) (n0 z0 : Nat) (EN : Outcome → State → List Loc → Prop) (Q : Option Value → Heap → Prop) (T : State) (f : JFrame) : Prop :=
  ∃ s₂ o, Steps p.tables e below (T.setTop f) s₂ ∧ s₂.status = .running ∧ Ended s₂ below o ∧ ∃ v L, o = .returned v ∧ OQ Q z0 n0 v s₂.heap L ∧ EN o s₂ L
/-- the end as the narrow frame has it -/
def ENn (s : State) (kc ns : Nat) : Outcome → State → List Loc → Prop := fun o t L => FrameEnd s o t L kc ns
theorem OW.here (W : OW p l e R s m args below meth c Z B ml own nm rt n0 z0 T h kk nn) : At T m c below := by obtain ⟨-, -, -, -, _, X, -⟩ := W; exact X.here
theorem OW.hx (W : OW p l e R s m args below meth c Z B ml own nm rt n0 z0 T h kk nn) : p.tables.exec = Jvm.exec := W.1.1
theorem OW.hZ (W : OW p l e R s m args below meth c Z B ml own nm rt n0 z0 T h kk nn) : Z.Warmed39 s.vm := W.1.2.1
theorem OW.by (W : OW p l e R s m args below meth c Z B ml own nm rt n0 z0 T h kk nn) : c.code = B := W.1.2.2.1
theorem OW.hml (W : OW p l e R s m args below meth c Z B ml own nm rt n0 z0 T h kk nn) : c.maxLocals = ml := W.1.2.2.2.1
theorem OW.hown (W : OW p l e R s m args below meth c Z B ml own nm rt n0 z0 T h kk nn) : s.vm.findClass own = some m.cls := W.1.2.2.2.2.1
theorem OW.le (W : OW p l e R s m args below meth c Z B ml own nm rt n0 z0 T h kk nn) : n0 ≤ h.size := Nat.le_trans W.2.1 W.2.2.1
theorem OF.step {T' : State} {f f' : JFrame} (hs : ∀ t, Steps p.tables e below (T'.setTop f') t → Steps p.tables e below (T.setTop f) t) (q : OF p e below n1 z1 EN Q T' f') : OF p e below n1 z1 EN Q T f := by
  obtain ⟨s₂, o, h1, h2⟩ := q
  exact ⟨s₂, o, hs _ h1, h2⟩
theorem OF.cast {f f' : JFrame} (q : f = f') (h : OF p e below n1 z1 EN Q T f') : OF p e below n1 z1 EN Q T f := q ▸ h
theorem o_iloadN {i : Fin 4} {v : Int32} (W : OW p l e R s m args below meth c Z B ml own nm rt n0 z0 T h kk nn) (hd : decode B pc = .ok (.iload_n i, 1)) (hl : L[i.val]? = some (.val (.int v))) (hp : pc + 1 = pc')
    (k1 : OF p e below n1 z1 EN Q T (mkF m pc' L (.int v :: S))) : OF p e below n1 z1 EN Q T (mkF m pc L S) := by
  subst hp; exact OF.step (fun t q => XS.iloadN W.here W.hx rfl (hb W.by hd) hl q) k1
theorem o_iload {i : Nat} {v : Int32} (W : OW p l e R s m args below meth c Z B ml own nm rt n0 z0 T h kk nn) (hd : decode B pc = .ok (.iload i, 2)) (hl : L[i]? = some (.val (.int v))) (hp : pc + 2 = pc')
    (k1 : OF p e below n1 z1 EN Q T (mkF m pc' L (.int v :: S))) : OF p e below n1 z1 EN Q T (mkF m pc L S) := by
  subst hp; exact OF.step (fun t q => XS.iload W.here W.hx rfl (hb W.by hd) hl q) k1
theorem o_lloadN {i : Fin 4} {v : Int64} (W : OW p l e R s m args below meth c Z B ml own nm rt n0 z0 T h kk nn) (hd : decode B pc = .ok (.lload_n i, 1)) (hl : L[i.val]? = some (.val (.long v))) (hp : pc + 1 = pc')
    (k1 : OF p e below n1 z1 EN Q T (mkF m pc' L (.long v :: S))) : OF p e below n1 z1 EN Q T (mkF m pc L S) := by
  subst hp; exact OF.step (fun t q => XS.lloadN W.here W.hx rfl (hb W.by hd) hl q) k1
theorem o_lload {i : Nat} {v : Int64} (W : OW p l e R s m args below meth c Z B ml own nm rt n0 z0 T h kk nn) (hd : decode B pc = .ok (.lload i, 2)) (hl : L[i]? = some (.val (.long v))) (hp : pc + 2 = pc')
    (k1 : OF p e below n1 z1 EN Q T (mkF m pc' L (.long v :: S))) : OF p e below n1 z1 EN Q T (mkF m pc L S) := by
  subst hp; exact OF.step (fun t q => XS.lload W.here W.hx rfl (hb W.by hd) hl q) k1
theorem o_aloadN {i : Fin 4} {v : Value} (W : OW p l e R s m args below meth c Z B ml own nm rt n0 z0 T h kk nn) (hd : decode B pc = .ok (.aload_n i, 1)) (hl : L[i.val]? = some (.val v)) (hv : v.isRef = true) (hp : pc + 1 = pc')
    (k1 : OF p e below n1 z1 EN Q T (mkF m pc' L (v :: S))) : OF p e below n1 z1 EN Q T (mkF m pc L S) := by
  subst hp; exact OF.step (fun t q => XS.aloadN W.here W.hx rfl (hb W.by hd) hl hv q) k1
theorem o_aload {i : Nat} {v : Value} (W : OW p l e R s m args below meth c Z B ml own nm rt n0 z0 T h kk nn) (hd : decode B pc = .ok (.aload i, 2)) (hl : L[i]? = some (.val v)) (hv : v.isRef = true) (hp : pc + 2 = pc')
    (k1 : OF p e below n1 z1 EN Q T (mkF m pc' L (v :: S))) : OF p e below n1 z1 EN Q T (mkF m pc L S) := by
  subst hp; exact OF.step (fun t q => XS.aload W.here W.hx rfl (hb W.by hd) hl hv q) k1
theorem o_istoreN {i : Fin 4} {x : Int32} (W : OW p l e R s m args below meth c Z B ml own nm rt n0 z0 T h kk nn) (hd : decode B pc = .ok (.istore_n i, 1)) (hl : storeLocals L i.val (.int x) = some L') (hp : pc + 1 = pc')
    (k1 : OF p e below n1 z1 EN Q T (mkF m pc' L' S)) : OF p e below n1 z1 EN Q T (mkF m pc L (.int x :: S)) := by
  subst hp; exact OF.step (fun t q => XS.istoreN W.here W.hx rfl (hb W.by hd) rfl hl q) k1
theorem o_istoreNG {i : Fin 4} {x : Int32} {Lf : Int32 → Array Slot} (W : OW p l e R s m args below meth c Z B ml own nm rt n0 z0 T h kk nn) (hd : decode B pc = .ok (.istore_n i, 1)) (hl : storeLocals L i.val (.int x) = some (Lf x)) (hp : pc + 1 = pc')
    (k1 : ∀ v, v = x → OF p e below n1 z1 EN Q T (mkF m pc' (Lf v) S)) : OF p e below n1 z1 EN Q T (mkF m pc L (.int x :: S)) := o_istoreN W hd hl hp (k1 x rfl)
theorem o_istore {i : Nat} {x : Int32} (W : OW p l e R s m args below meth c Z B ml own nm rt n0 z0 T h kk nn) (hd : decode B pc = .ok (.istore i, 2)) (hl : storeLocals L i (.int x) = some L') (hp : pc + 2 = pc')
    (k1 : OF p e below n1 z1 EN Q T (mkF m pc' L' S)) : OF p e below n1 z1 EN Q T (mkF m pc L (.int x :: S)) := by
  subst hp; exact OF.step (fun t q => XS.istore W.here W.hx rfl (hb W.by hd) rfl hl q) k1
theorem o_istoreG {i : Nat} {x : Int32} {Lf : Int32 → Array Slot} (W : OW p l e R s m args below meth c Z B ml own nm rt n0 z0 T h kk nn) (hd : decode B pc = .ok (.istore i, 2)) (hl : storeLocals L i (.int x) = some (Lf x)) (hp : pc + 2 = pc')
    (k1 : ∀ v, v = x → OF p e below n1 z1 EN Q T (mkF m pc' (Lf v) S)) : OF p e below n1 z1 EN Q T (mkF m pc L (.int x :: S)) := o_istore W hd hl hp (k1 x rfl)
theorem o_lstoreN {i : Fin 4} {x : Int64} (W : OW p l e R s m args below meth c Z B ml own nm rt n0 z0 T h kk nn) (hd : decode B pc = .ok (.lstore_n i, 1)) (hl : storeLocals L i.val (.long x) = some L') (hp : pc + 1 = pc')
    (k1 : OF p e below n1 z1 EN Q T (mkF m pc' L' S)) : OF p e below n1 z1 EN Q T (mkF m pc L (.long x :: S)) := by
  subst hp; exact OF.step (fun t q => XS.lstoreN W.here W.hx rfl (hb W.by hd) rfl hl q) k1
theorem o_lstoreNG {i : Fin 4} {x : Int64} {Lf : Int64 → Array Slot} (W : OW p l e R s m args below meth c Z B ml own nm rt n0 z0 T h kk nn) (hd : decode B pc = .ok (.lstore_n i, 1)) (hl : storeLocals L i.val (.long x) = some (Lf x)) (hp : pc + 1 = pc')
    (k1 : ∀ v, v = x → OF p e below n1 z1 EN Q T (mkF m pc' (Lf v) S)) : OF p e below n1 z1 EN Q T (mkF m pc L (.long x :: S)) := o_lstoreN W hd hl hp (k1 x rfl)
theorem o_lstore {i : Nat} {x : Int64} (W : OW p l e R s m args below meth c Z B ml own nm rt n0 z0 T h kk nn) (hd : decode B pc = .ok (.lstore i, 2)) (hl : storeLocals L i (.long x) = some L') (hp : pc + 2 = pc')
    (k1 : OF p e below n1 z1 EN Q T (mkF m pc' L' S)) : OF p e below n1 z1 EN Q T (mkF m pc L (.long x :: S)) := by
  subst hp; exact OF.step (fun t q => XS.lstore W.here W.hx rfl (hb W.by hd) rfl hl q) k1
theorem o_lstoreG {i : Nat} {x : Int64} {Lf : Int64 → Array Slot} (W : OW p l e R s m args below meth c Z B ml own nm rt n0 z0 T h kk nn) (hd : decode B pc = .ok (.lstore i, 2)) (hl : storeLocals L i (.long x) = some (Lf x)) (hp : pc + 2 = pc')
    (k1 : ∀ v, v = x → OF p e below n1 z1 EN Q T (mkF m pc' (Lf v) S)) : OF p e below n1 z1 EN Q T (mkF m pc L (.long x :: S)) := o_lstore W hd hl hp (k1 x rfl)
theorem o_astoreN {i : Fin 4} {x : Value} (W : OW p l e R s m args below meth c Z B ml own nm rt n0 z0 T h kk nn) (hd : decode B pc = .ok (.astore_n i, 1)) (hv : x.isRef = true) (hl : storeLocals L i.val x = some L') (hp : pc + 1 = pc')
    (k1 : OF p e below n1 z1 EN Q T (mkF m pc' L' S)) : OF p e below n1 z1 EN Q T (mkF m pc L (x :: S)) := by
  subst hp; exact OF.step (fun t q => XS.astoreN W.here W.hx rfl (hb W.by hd) rfl hv hl q) k1
theorem o_astore {i : Nat} {x : Value} (W : OW p l e R s m args below meth c Z B ml own nm rt n0 z0 T h kk nn) (hd : decode B pc = .ok (.astore i, 2)) (hv : x.isRef = true) (hl : storeLocals L i x = some L') (hp : pc + 2 = pc')
    (k1 : OF p e below n1 z1 EN Q T (mkF m pc' L' S)) : OF p e below n1 z1 EN Q T (mkF m pc L (x :: S)) := by
  subst hp; exact OF.step (fun t q => XS.astore W.here W.hx rfl (hb W.by hd) rfl hv hl q) k1
theorem o_iconst {i : Int} {v : Int32} (W : OW p l e R s m args below meth c Z B ml own nm rt n0 z0 T h kk nn) (hd : decode B pc = .ok (.iconst i, 1)) (hv : Int32.ofInt i = v) (hp : pc + 1 = pc')
    (k1 : OF p e below n1 z1 EN Q T (mkF m pc' L (.int v :: S))) : OF p e below n1 z1 EN Q T (mkF m pc L S) := by
  subst hp hv; exact OF.step (fun t q => XS.iconst W.here W.hx rfl (hb W.by hd) q) k1
theorem o_bipush {i : Int} {v : Int32} (W : OW p l e R s m args below meth c Z B ml own nm rt n0 z0 T h kk nn) (hd : decode B pc = .ok (.bipush i, 2)) (hv : (Int8.ofInt i).toInt32 = v) (hp : pc + 2 = pc')
    (k1 : OF p e below n1 z1 EN Q T (mkF m pc' L (.int v :: S))) : OF p e below n1 z1 EN Q T (mkF m pc L S) := by
  subst hp hv; exact OF.step (fun t q => XS.bipush W.here W.hx rfl (hb W.by hd) q) k1
theorem o_sipush {i : Int} {v : Int32} (W : OW p l e R s m args below meth c Z B ml own nm rt n0 z0 T h kk nn) (hd : decode B pc = .ok (.sipush i, 3)) (hv : (Int16.ofInt i).toInt32 = v) (hp : pc + 3 = pc')
    (k1 : OF p e below n1 z1 EN Q T (mkF m pc' L (.int v :: S))) : OF p e below n1 z1 EN Q T (mkF m pc L S) := by
  subst hp hv; exact OF.step (fun t q => XS.sipush W.here W.hx rfl (hb W.by hd) q) k1
theorem o_lconst {i : Fin 2} {v : Int64} (W : OW p l e R s m args below meth c Z B ml own nm rt n0 z0 T h kk nn) (hd : decode B pc = .ok (.lconst i, 1)) (hv : Int64.ofNat i = v) (hp : pc + 1 = pc')
    (k1 : OF p e below n1 z1 EN Q T (mkF m pc' L (.long v :: S))) : OF p e below n1 z1 EN Q T (mkF m pc L S) := by
  subst hp hv; exact OF.step (fun t q => XS.lconst W.here W.hx rfl (hb W.by hd) q) k1
theorem o_ldc {i : Nat} {v : Int32} (W : OW p l e R s m args below meth c Z B ml own nm rt n0 z0 T h kk nn) (w : (Jvm.Cond.constant own i v).before a0 Z = true) (hd : decode B pc = .ok (.ldc i, 2)) (hp : pc + 2 = pc')
    (k1 : OF p e below n1 z1 EN Q T (mkF m pc' L (.int v :: S))) : OF p e below n1 z1 EN Q T (mkF m pc L S) := by
  subst hp; obtain ⟨_, X, _⟩ := W.2.2.2.2; exact OF.step (fun t q => X.ldcInt W.hx W.hown (mvT W.hZ w) (g := mkF m pc L S) rfl (hb W.by hd) t q) k1
theorem o_ldc_w {i : Nat} {v : Int32} (W : OW p l e R s m args below meth c Z B ml own nm rt n0 z0 T h kk nn) (w : (Jvm.Cond.constant own i v).before a0 Z = true) (hd : decode B pc = .ok (.ldc_w i, 3)) (hp : pc + 3 = pc')
    (k1 : OF p e below n1 z1 EN Q T (mkF m pc' L (.int v :: S))) : OF p e below n1 z1 EN Q T (mkF m pc L S) := by
  subst hp; obtain ⟨_, X, _⟩ := W.2.2.2.2; exact OF.step (fun t q => X.ldcwInt W.hx W.hown (mvT W.hZ w) (g := mkF m pc L S) rfl (hb W.by hd) t q) k1
theorem o_ldc2_w {i : Nat} {v : Int64} (W : OW p l e R s m args below meth c Z B ml own nm rt n0 z0 T h kk nn) (w : (Jvm.Cond.constantLong own i v).before a0 Z = true) (hd : decode B pc = .ok (.ldc2_w i, 3)) (hp : pc + 3 = pc')
    (k1 : OF p e below n1 z1 EN Q T (mkF m pc' L (.long v :: S))) : OF p e below n1 z1 EN Q T (mkF m pc L S) := by
  subst hp; obtain ⟨_, X, _⟩ := W.2.2.2.2; exact OF.step (fun t q => X.ldc2Long W.hx W.hown (mvT W.hZ w) (g := mkF m pc L S) rfl (hb W.by hd) t q) k1
theorem o_iadd {x y : Int32} (W : OW p l e R s m args below meth c Z B ml own nm rt n0 z0 T h kk nn) (hd : decode B pc = .ok (.iadd, 1)) (hp : pc + 1 = pc')
    (k1 : OF p e below n1 z1 EN Q T (mkF m pc' L (.int (x + y) :: S))) : OF p e below n1 z1 EN Q T (mkF m pc L (.int y :: .int x :: S)) := by
  subst hp; exact OF.step (fun t q => XS.iadd W.here W.hx rfl (hb W.by hd) rfl q) k1
theorem o_isub {x y : Int32} (W : OW p l e R s m args below meth c Z B ml own nm rt n0 z0 T h kk nn) (hd : decode B pc = .ok (.isub, 1)) (hp : pc + 1 = pc')
    (k1 : OF p e below n1 z1 EN Q T (mkF m pc' L (.int (x - y) :: S))) : OF p e below n1 z1 EN Q T (mkF m pc L (.int y :: .int x :: S)) := by
  subst hp; exact OF.step (fun t q => XS.isub W.here W.hx rfl (hb W.by hd) rfl q) k1
theorem o_imul {x y : Int32} (W : OW p l e R s m args below meth c Z B ml own nm rt n0 z0 T h kk nn) (hd : decode B pc = .ok (.imul, 1)) (hp : pc + 1 = pc')
    (k1 : OF p e below n1 z1 EN Q T (mkF m pc' L (.int (x * y) :: S))) : OF p e below n1 z1 EN Q T (mkF m pc L (.int y :: .int x :: S)) := by
  subst hp; exact OF.step (fun t q => XS.imul W.here W.hx rfl (hb W.by hd) rfl q) k1
theorem o_iand {x y : Int32} (W : OW p l e R s m args below meth c Z B ml own nm rt n0 z0 T h kk nn) (hd : decode B pc = .ok (.iand, 1)) (hp : pc + 1 = pc')
    (k1 : OF p e below n1 z1 EN Q T (mkF m pc' L (.int (x &&& y) :: S))) : OF p e below n1 z1 EN Q T (mkF m pc L (.int y :: .int x :: S)) := by
  subst hp; exact OF.step (fun t q => XS.iand W.here W.hx rfl (hb W.by hd) rfl q) k1
theorem o_ior {x y : Int32} (W : OW p l e R s m args below meth c Z B ml own nm rt n0 z0 T h kk nn) (hd : decode B pc = .ok (.ior, 1)) (hp : pc + 1 = pc')
    (k1 : OF p e below n1 z1 EN Q T (mkF m pc' L (.int (x ||| y) :: S))) : OF p e below n1 z1 EN Q T (mkF m pc L (.int y :: .int x :: S)) := by
  subst hp; exact OF.step (fun t q => XS.ior W.here W.hx rfl (hb W.by hd) rfl q) k1
theorem o_ixor {x y : Int32} (W : OW p l e R s m args below meth c Z B ml own nm rt n0 z0 T h kk nn) (hd : decode B pc = .ok (.ixor, 1)) (hp : pc + 1 = pc')
    (k1 : OF p e below n1 z1 EN Q T (mkF m pc' L (.int (x ^^^ y) :: S))) : OF p e below n1 z1 EN Q T (mkF m pc L (.int y :: .int x :: S)) := by
  subst hp; exact OF.step (fun t q => XS.ixor W.here W.hx rfl (hb W.by hd) rfl q) k1
theorem o_ishl {x y : Int32} (W : OW p l e R s m args below meth c Z B ml own nm rt n0 z0 T h kk nn) (hd : decode B pc = .ok (.ishl, 1)) (hp : pc + 1 = pc')
    (k1 : OF p e below n1 z1 EN Q T (mkF m pc' L (.int (x <<< (y &&& 31)) :: S))) : OF p e below n1 z1 EN Q T (mkF m pc L (.int y :: .int x :: S)) := by
  subst hp; exact OF.step (fun t q => XS.ishl W.here W.hx rfl (hb W.by hd) rfl q) k1
theorem o_ishr {x y : Int32} (W : OW p l e R s m args below meth c Z B ml own nm rt n0 z0 T h kk nn) (hd : decode B pc = .ok (.ishr, 1)) (hp : pc + 1 = pc')
    (k1 : OF p e below n1 z1 EN Q T (mkF m pc' L (.int (x >>> (y &&& 31)) :: S))) : OF p e below n1 z1 EN Q T (mkF m pc L (.int y :: .int x :: S)) := by
  subst hp; exact OF.step (fun t q => XS.ishr W.here W.hx rfl (hb W.by hd) rfl q) k1
theorem o_iushr {x y : Int32} (W : OW p l e R s m args below meth c Z B ml own nm rt n0 z0 T h kk nn) (hd : decode B pc = .ok (.iushr, 1)) (hp : pc + 1 = pc')
    (k1 : OF p e below n1 z1 EN Q T (mkF m pc' L (.int ((x.toUInt32 >>> (y &&& 31).toUInt32).toInt32) :: S))) : OF p e below n1 z1 EN Q T (mkF m pc L (.int y :: .int x :: S)) := by
  subst hp; exact OF.step (fun t q => XS.iushr W.here W.hx rfl (hb W.by hd) rfl q) k1
theorem o_idiv {x y : Int32} (W : OW p l e R s m args below meth c Z B ml own nm rt n0 z0 T h kk nn) (hd : decode B pc = .ok (.idiv, 1)) (hy : y ≠ 0) (hp : pc + 1 = pc')
    (k1 : OF p e below n1 z1 EN Q T (mkF m pc' L (.int (x / y) :: S))) : OF p e below n1 z1 EN Q T (mkF m pc L (.int y :: .int x :: S)) := by
  subst hp; exact OF.step (fun t q => XS.idiv W.here W.hx rfl (hb W.by hd) rfl hy q) k1
theorem o_irem {x y : Int32} (W : OW p l e R s m args below meth c Z B ml own nm rt n0 z0 T h kk nn) (hd : decode B pc = .ok (.irem, 1)) (hy : y ≠ 0) (hp : pc + 1 = pc')
    (k1 : OF p e below n1 z1 EN Q T (mkF m pc' L (.int (x - (x / y) * y) :: S))) : OF p e below n1 z1 EN Q T (mkF m pc L (.int y :: .int x :: S)) := by
  subst hp; exact OF.step (fun t q => XS.irem W.here W.hx rfl (hb W.by hd) rfl hy q) k1
theorem o_ladd {x y : Int64} (W : OW p l e R s m args below meth c Z B ml own nm rt n0 z0 T h kk nn) (hd : decode B pc = .ok (.ladd, 1)) (hp : pc + 1 = pc')
    (k1 : OF p e below n1 z1 EN Q T (mkF m pc' L (.long (x + y) :: S))) : OF p e below n1 z1 EN Q T (mkF m pc L (.long y :: .long x :: S)) := by
  subst hp; exact OF.step (fun t q => XS.ladd W.here W.hx rfl (hb W.by hd) rfl q) k1
theorem o_lsub {x y : Int64} (W : OW p l e R s m args below meth c Z B ml own nm rt n0 z0 T h kk nn) (hd : decode B pc = .ok (.lsub, 1)) (hp : pc + 1 = pc')
    (k1 : OF p e below n1 z1 EN Q T (mkF m pc' L (.long (x - y) :: S))) : OF p e below n1 z1 EN Q T (mkF m pc L (.long y :: .long x :: S)) := by
  subst hp; exact OF.step (fun t q => XS.lsub W.here W.hx rfl (hb W.by hd) rfl q) k1
theorem o_lmul {x y : Int64} (W : OW p l e R s m args below meth c Z B ml own nm rt n0 z0 T h kk nn) (hd : decode B pc = .ok (.lmul, 1)) (hp : pc + 1 = pc')
    (k1 : OF p e below n1 z1 EN Q T (mkF m pc' L (.long (x * y) :: S))) : OF p e below n1 z1 EN Q T (mkF m pc L (.long y :: .long x :: S)) := by
  subst hp; exact OF.step (fun t q => XS.lmul W.here W.hx rfl (hb W.by hd) rfl q) k1
theorem o_land {x y : Int64} (W : OW p l e R s m args below meth c Z B ml own nm rt n0 z0 T h kk nn) (hd : decode B pc = .ok (.land, 1)) (hp : pc + 1 = pc')
    (k1 : OF p e below n1 z1 EN Q T (mkF m pc' L (.long (x &&& y) :: S))) : OF p e below n1 z1 EN Q T (mkF m pc L (.long y :: .long x :: S)) := by
  subst hp; exact OF.step (fun t q => XS.land W.here W.hx rfl (hb W.by hd) rfl q) k1
theorem o_lor {x y : Int64} (W : OW p l e R s m args below meth c Z B ml own nm rt n0 z0 T h kk nn) (hd : decode B pc = .ok (.lor, 1)) (hp : pc + 1 = pc')
    (k1 : OF p e below n1 z1 EN Q T (mkF m pc' L (.long (x ||| y) :: S))) : OF p e below n1 z1 EN Q T (mkF m pc L (.long y :: .long x :: S)) := by
  subst hp; exact OF.step (fun t q => XS.lor W.here W.hx rfl (hb W.by hd) rfl q) k1
theorem o_lxor {x y : Int64} (W : OW p l e R s m args below meth c Z B ml own nm rt n0 z0 T h kk nn) (hd : decode B pc = .ok (.lxor, 1)) (hp : pc + 1 = pc')
    (k1 : OF p e below n1 z1 EN Q T (mkF m pc' L (.long (x ^^^ y) :: S))) : OF p e below n1 z1 EN Q T (mkF m pc L (.long y :: .long x :: S)) := by
  subst hp; exact OF.step (fun t q => XS.lxor W.here W.hx rfl (hb W.by hd) rfl q) k1
theorem o_ldiv {x y : Int64} (W : OW p l e R s m args below meth c Z B ml own nm rt n0 z0 T h kk nn) (hd : decode B pc = .ok (.ldiv, 1)) (hy : y ≠ 0) (hp : pc + 1 = pc')
    (k1 : OF p e below n1 z1 EN Q T (mkF m pc' L (.long (x / y) :: S))) : OF p e below n1 z1 EN Q T (mkF m pc L (.long y :: .long x :: S)) := by
  subst hp; exact OF.step (fun t q => XS.ldiv W.here W.hx rfl (hb W.by hd) rfl hy q) k1
theorem o_lrem {x y : Int64} (W : OW p l e R s m args below meth c Z B ml own nm rt n0 z0 T h kk nn) (hd : decode B pc = .ok (.lrem, 1)) (hy : y ≠ 0) (hp : pc + 1 = pc')
    (k1 : OF p e below n1 z1 EN Q T (mkF m pc' L (.long (x - (x / y) * y) :: S))) : OF p e below n1 z1 EN Q T (mkF m pc L (.long y :: .long x :: S)) := by
  subst hp; exact OF.step (fun t q => XS.lrem W.here W.hx rfl (hb W.by hd) rfl hy q) k1
theorem o_lshl {x : Int64} {y : Int32} (W : OW p l e R s m args below meth c Z B ml own nm rt n0 z0 T h kk nn) (hd : decode B pc = .ok (.lshl, 1)) (hp : pc + 1 = pc')
    (k1 : OF p e below n1 z1 EN Q T (mkF m pc' L (.long (x <<< (y &&& 0x3f).toInt64) :: S))) : OF p e below n1 z1 EN Q T (mkF m pc L (.int y :: .long x :: S)) := by
  subst hp; exact OF.step (fun t q => XS.lshl W.here W.hx rfl (hb W.by hd) rfl q) k1
theorem o_lshr {x : Int64} {y : Int32} (W : OW p l e R s m args below meth c Z B ml own nm rt n0 z0 T h kk nn) (hd : decode B pc = .ok (.lshr, 1)) (hp : pc + 1 = pc')
    (k1 : OF p e below n1 z1 EN Q T (mkF m pc' L (.long (x >>> (y &&& 0x3f).toInt64) :: S))) : OF p e below n1 z1 EN Q T (mkF m pc L (.int y :: .long x :: S)) := by
  subst hp; exact OF.step (fun t q => XS.lshr W.here W.hx rfl (hb W.by hd) rfl q) k1
theorem o_lushr {x : Int64} {y : Int32} (W : OW p l e R s m args below meth c Z B ml own nm rt n0 z0 T h kk nn) (hd : decode B pc = .ok (.lushr, 1)) (hp : pc + 1 = pc')
    (k1 : OF p e below n1 z1 EN Q T (mkF m pc' L (.long ((x.toUInt64 >>> (y &&& 0x3f).toInt64.toUInt64).toInt64) :: S))) : OF p e below n1 z1 EN Q T (mkF m pc L (.int y :: .long x :: S)) := by
  subst hp; exact OF.step (fun t q => XS.lushr W.here W.hx rfl (hb W.by hd) rfl q) k1
theorem o_i2b {x : Int32} (W : OW p l e R s m args below meth c Z B ml own nm rt n0 z0 T h kk nn) (hd : decode B pc = .ok (.i2b, 1)) (hp : pc + 1 = pc')
    (k1 : OF p e below n1 z1 EN Q T (mkF m pc' L (.int (x.toInt8.toInt32) :: S))) : OF p e below n1 z1 EN Q T (mkF m pc L (.int x :: S)) := by
  subst hp; exact OF.step (fun t q => XS.i2b W.here W.hx rfl (hb W.by hd) rfl q) k1
theorem o_i2c {x : Int32} (W : OW p l e R s m args below meth c Z B ml own nm rt n0 z0 T h kk nn) (hd : decode B pc = .ok (.i2c, 1)) (hp : pc + 1 = pc')
    (k1 : OF p e below n1 z1 EN Q T (mkF m pc' L (.int (x.toUInt32.toUInt16.toUInt32.toInt32) :: S))) : OF p e below n1 z1 EN Q T (mkF m pc L (.int x :: S)) := by
  subst hp; exact OF.step (fun t q => XS.i2c W.here W.hx rfl (hb W.by hd) rfl q) k1
theorem o_i2s {x : Int32} (W : OW p l e R s m args below meth c Z B ml own nm rt n0 z0 T h kk nn) (hd : decode B pc = .ok (.i2s, 1)) (hp : pc + 1 = pc')
    (k1 : OF p e below n1 z1 EN Q T (mkF m pc' L (.int (x.toInt16.toInt32) :: S))) : OF p e below n1 z1 EN Q T (mkF m pc L (.int x :: S)) := by
  subst hp; exact OF.step (fun t q => XS.i2s W.here W.hx rfl (hb W.by hd) rfl q) k1
theorem o_i2l {x : Int32} (W : OW p l e R s m args below meth c Z B ml own nm rt n0 z0 T h kk nn) (hd : decode B pc = .ok (.i2l, 1)) (hp : pc + 1 = pc')
    (k1 : OF p e below n1 z1 EN Q T (mkF m pc' L (.long (x.toInt64) :: S))) : OF p e below n1 z1 EN Q T (mkF m pc L (.int x :: S)) := by
  subst hp; exact OF.step (fun t q => XS.i2l W.here W.hx rfl (hb W.by hd) rfl q) k1
theorem o_l2i {x : Int64} (W : OW p l e R s m args below meth c Z B ml own nm rt n0 z0 T h kk nn) (hd : decode B pc = .ok (.l2i, 1)) (hp : pc + 1 = pc')
    (k1 : OF p e below n1 z1 EN Q T (mkF m pc' L (.int (x.toInt32) :: S))) : OF p e below n1 z1 EN Q T (mkF m pc L (.long x :: S)) := by
  subst hp; exact OF.step (fun t q => XS.l2i W.here W.hx rfl (hb W.by hd) rfl q) k1
theorem o_dup {x : Value} (W : OW p l e R s m args below meth c Z B ml own nm rt n0 z0 T h kk nn) (hd : decode B pc = .ok (.dup, 1)) (hc : x.category = 1) (hp : pc + 1 = pc')
    (k1 : OF p e below n1 z1 EN Q T (mkF m pc' L (x :: x :: S))) : OF p e below n1 z1 EN Q T (mkF m pc L (x :: S)) := by
  subst hp; exact OF.step (fun t q => XS.dup W.here W.hx rfl (hb W.by hd) rfl hc q) k1
theorem o_pop {x : Value} (W : OW p l e R s m args below meth c Z B ml own nm rt n0 z0 T h kk nn) (hd : decode B pc = .ok (.pop, 1)) (hc : x.category = 1) (hp : pc + 1 = pc')
    (k1 : OF p e below n1 z1 EN Q T (mkF m pc' L S)) : OF p e below n1 z1 EN Q T (mkF m pc L (x :: S)) := by
  subst hp; exact OF.step (fun t q => XS.pop W.here W.hx rfl (hb W.by hd) rfl hc q) k1
theorem o_dup2 {x y : Value} (W : OW p l e R s m args below meth c Z B ml own nm rt n0 z0 T h kk nn) (hd : decode B pc = .ok (.dup2, 1)) (hc : x.category = 1) (hc' : y.category = 1) (hp : pc + 1 = pc')
    (k1 : OF p e below n1 z1 EN Q T (mkF m pc' L (x :: y :: x :: y :: S))) : OF p e below n1 z1 EN Q T (mkF m pc L (x :: y :: S)) := by
  subst hp; exact OF.step (fun t q => XT.dup2 W.here W.hx rfl (hb W.by hd) rfl hc hc' q) k1
theorem o_iinc {i : Nat} {z : Int} {x : Int32} (W : OW p l e R s m args below meth c Z B ml own nm rt n0 z0 T h kk nn) (hd : decode B pc = .ok (.iinc i z, 3)) (hl : L[i]? = some (.val (.int x))) (hl' : storeLocals L i (.int (x + Int32.ofInt z)) = some L') (hp : pc + 3 = pc')
    (k1 : OF p e below n1 z1 EN Q T (mkF m pc' L' S)) : OF p e below n1 z1 EN Q T (mkF m pc L S) := by
  subst hp; exact OF.step (fun t q => XS.iinc W.here W.hx rfl (hb W.by hd) hl hl' q) k1
theorem o_goto {o : Int} (W : OW p l e R s m args below meth c Z B ml own nm rt n0 z0 T h kk nn) (hd : decode B pc = .ok (.goto o, 3)) (ho : 0 ≤ (pc : Int) + o) (hq : ((pc : Int) + o).toNat = pq)
    (k1 : OF p e below n1 z1 EN Q T (mkF m pq L S)) : OF p e below n1 z1 EN Q T (mkF m pc L S) := OF.step (fun t q => XS.goto W.here W.hx rfl rfl (hb W.by hd) ho hq q) k1
theorem o_lt {x y : Int32} (q : x.toInt < y.toInt) : x < y := Int32.lt_iff_toInt_lt.mpr q
theorem o_nlt {x y : Int32} (q : y.toInt ≤ x.toInt) : ¬ x < y := fun z => by rw [Int32.lt_iff_toInt_lt] at z; omega
theorem o_eq {x y : Int32} (q : x.toInt = y.toInt) : x = y := Int32.toInt_inj.mp q
theorem o_ne {x y : Int32} (q : ¬ x.toInt = y.toInt) : ¬ x = y := fun z => q (congrArg Int32.toInt z)
theorem o_zero : (0 : Int32).toInt = 0 := rfl
theorem o_llt {x y : Int64} (q : x.toInt < y.toInt) : x < y := Int64.lt_iff_toInt_lt.mpr q
theorem o_nllt {x y : Int64} (q : y.toInt ≤ x.toInt) : ¬ x < y := fun z => by rw [Int64.lt_iff_toInt_lt] at z; omega
theorem o_leq {x y : Int64} (q : x.toInt = y.toInt) : x = y := Int64.toInt_inj.mp q
theorem o_lne {x y : Int64} (q : ¬ x.toInt = y.toInt) : ¬ x = y := fun z => q (congrArg Int64.toInt z)
theorem o_icmp_lt {x y : Int32} {o : Int} (W : OW p l e R s m args below meth c Z B ml own nm rt n0 z0 T h kk nn) (hd : decode B pc = .ok (.if_icmp .lt o, 3)) (ho : 0 ≤ (pc : Int) + o) (hq : ((pc : Int) + o).toNat = pq) (hp : pc + 3 = pc')
    (ky : x.toInt < y.toInt → OF p e below n1 z1 EN Q T (mkF m pq L S)) (kn : y.toInt ≤ x.toInt → OF p e below n1 z1 EN Q T (mkF m pc' L S)) : OF p e below n1 z1 EN Q T (mkF m pc L (.int y :: .int x :: S)) := by
  subst hp
  rcases Int.lt_or_le (x.toInt) (y.toInt) with q | q
  · exact OF.step (fun t z => XS.icmpYes W.here W.hx rfl rfl (hb W.by hd) rfl (tlt (o_lt q)).1 ho hq z) (ky q)
  · exact OF.step (fun t z => XS.icmpNo W.here W.hx rfl (hb W.by hd) rfl (flt (o_nlt q)).1 z) (kn q)
theorem o_icmp_ge {x y : Int32} {o : Int} (W : OW p l e R s m args below meth c Z B ml own nm rt n0 z0 T h kk nn) (hd : decode B pc = .ok (.if_icmp .ge o, 3)) (ho : 0 ≤ (pc : Int) + o) (hq : ((pc : Int) + o).toNat = pq) (hp : pc + 3 = pc')
    (ky : y.toInt ≤ x.toInt → OF p e below n1 z1 EN Q T (mkF m pq L S)) (kn : x.toInt < y.toInt → OF p e below n1 z1 EN Q T (mkF m pc' L S)) : OF p e below n1 z1 EN Q T (mkF m pc L (.int y :: .int x :: S)) := by
  subst hp
  rcases (Int.lt_or_le (x.toInt) (y.toInt)).symm with q | q
  · exact OF.step (fun t z => XS.icmpYes W.here W.hx rfl rfl (hb W.by hd) rfl (flt (o_nlt q)).2.1 ho hq z) (ky q)
  · exact OF.step (fun t z => XS.icmpNo W.here W.hx rfl (hb W.by hd) rfl (tlt (o_lt q)).2.1 z) (kn q)
theorem o_icmp_gt {x y : Int32} {o : Int} (W : OW p l e R s m args below meth c Z B ml own nm rt n0 z0 T h kk nn) (hd : decode B pc = .ok (.if_icmp .gt o, 3)) (ho : 0 ≤ (pc : Int) + o) (hq : ((pc : Int) + o).toNat = pq) (hp : pc + 3 = pc')
    (ky : y.toInt < x.toInt → OF p e below n1 z1 EN Q T (mkF m pq L S)) (kn : x.toInt ≤ y.toInt → OF p e below n1 z1 EN Q T (mkF m pc' L S)) : OF p e below n1 z1 EN Q T (mkF m pc L (.int y :: .int x :: S)) := by
  subst hp
  rcases Int.lt_or_le (y.toInt) (x.toInt) with q | q
  · exact OF.step (fun t z => XS.icmpYes W.here W.hx rfl rfl (hb W.by hd) rfl (tlt (o_lt q)).2.2.1 ho hq z) (ky q)
  · exact OF.step (fun t z => XS.icmpNo W.here W.hx rfl (hb W.by hd) rfl (flt (o_nlt q)).2.2.1 z) (kn q)
theorem o_icmp_le {x y : Int32} {o : Int} (W : OW p l e R s m args below meth c Z B ml own nm rt n0 z0 T h kk nn) (hd : decode B pc = .ok (.if_icmp .le o, 3)) (ho : 0 ≤ (pc : Int) + o) (hq : ((pc : Int) + o).toNat = pq) (hp : pc + 3 = pc')
    (ky : x.toInt ≤ y.toInt → OF p e below n1 z1 EN Q T (mkF m pq L S)) (kn : y.toInt < x.toInt → OF p e below n1 z1 EN Q T (mkF m pc' L S)) : OF p e below n1 z1 EN Q T (mkF m pc L (.int y :: .int x :: S)) := by
  subst hp
  rcases (Int.lt_or_le (y.toInt) (x.toInt)).symm with q | q
  · exact OF.step (fun t z => XS.icmpYes W.here W.hx rfl rfl (hb W.by hd) rfl (flt (o_nlt q)).2.2.2 ho hq z) (ky q)
  · exact OF.step (fun t z => XS.icmpNo W.here W.hx rfl (hb W.by hd) rfl (tlt (o_lt q)).2.2.2 z) (kn q)
theorem o_icmp_eq {x y : Int32} {o : Int} (W : OW p l e R s m args below meth c Z B ml own nm rt n0 z0 T h kk nn) (hd : decode B pc = .ok (.if_icmp .eq o, 3)) (ho : 0 ≤ (pc : Int) + o) (hq : ((pc : Int) + o).toNat = pq) (hp : pc + 3 = pc')
    (ky : x.toInt = y.toInt → OF p e below n1 z1 EN Q T (mkF m pq L S)) (kn : ¬ x.toInt = y.toInt → OF p e below n1 z1 EN Q T (mkF m pc' L S)) : OF p e below n1 z1 EN Q T (mkF m pc L (.int y :: .int x :: S)) := by
  subst hp
  rcases Decidable.em (x.toInt = y.toInt) with q | q
  · exact OF.step (fun t z => XS.icmpYes W.here W.hx rfl rfl (hb W.by hd) rfl (teq (o_eq q)).1 ho hq z) (ky q)
  · exact OF.step (fun t z => XS.icmpNo W.here W.hx rfl (hb W.by hd) rfl (feq (o_ne q)).1 z) (kn q)
theorem o_icmp_ne {x y : Int32} {o : Int} (W : OW p l e R s m args below meth c Z B ml own nm rt n0 z0 T h kk nn) (hd : decode B pc = .ok (.if_icmp .ne o, 3)) (ho : 0 ≤ (pc : Int) + o) (hq : ((pc : Int) + o).toNat = pq) (hp : pc + 3 = pc')
    (ky : ¬ x.toInt = y.toInt → OF p e below n1 z1 EN Q T (mkF m pq L S)) (kn : x.toInt = y.toInt → OF p e below n1 z1 EN Q T (mkF m pc' L S)) : OF p e below n1 z1 EN Q T (mkF m pc L (.int y :: .int x :: S)) := by
  subst hp
  rcases (Decidable.em (x.toInt = y.toInt)).symm with q | q
  · exact OF.step (fun t z => XS.icmpYes W.here W.hx rfl rfl (hb W.by hd) rfl (feq (o_ne q)).2 ho hq z) (ky q)
  · exact OF.step (fun t z => XS.icmpNo W.here W.hx rfl (hb W.by hd) rfl (teq (o_eq q)).2 z) (kn q)
theorem o_if_lt {x : Int32} {o : Int} (W : OW p l e R s m args below meth c Z B ml own nm rt n0 z0 T h kk nn) (hd : decode B pc = .ok (.ifCond .lt o, 3)) (ho : 0 ≤ (pc : Int) + o) (hq : ((pc : Int) + o).toNat = pq) (hp : pc + 3 = pc')
    (ky : x.toInt < 0 → OF p e below n1 z1 EN Q T (mkF m pq L S)) (kn : 0 ≤ x.toInt → OF p e below n1 z1 EN Q T (mkF m pc' L S)) : OF p e below n1 z1 EN Q T (mkF m pc L (.int x :: S)) := by
  subst hp
  rcases Int.lt_or_le (x.toInt) (0) with q | q
  · exact OF.step (fun t z => XS.ifYes W.here W.hx rfl rfl (hb W.by hd) rfl ((if0 _ _).trans (tlt (o_lt (x := x) (y := 0) q)).1) ho hq z) (ky q)
  · exact OF.step (fun t z => XS.ifNo W.here W.hx rfl (hb W.by hd) rfl ((if0 _ _).trans (flt (o_nlt (x := x) (y := 0) q)).1) z) (kn q)
theorem o_if_ge {x : Int32} {o : Int} (W : OW p l e R s m args below meth c Z B ml own nm rt n0 z0 T h kk nn) (hd : decode B pc = .ok (.ifCond .ge o, 3)) (ho : 0 ≤ (pc : Int) + o) (hq : ((pc : Int) + o).toNat = pq) (hp : pc + 3 = pc')
    (ky : 0 ≤ x.toInt → OF p e below n1 z1 EN Q T (mkF m pq L S)) (kn : x.toInt < 0 → OF p e below n1 z1 EN Q T (mkF m pc' L S)) : OF p e below n1 z1 EN Q T (mkF m pc L (.int x :: S)) := by
  subst hp
  rcases (Int.lt_or_le (x.toInt) (0)).symm with q | q
  · exact OF.step (fun t z => XS.ifYes W.here W.hx rfl rfl (hb W.by hd) rfl ((if0 _ _).trans (flt (o_nlt (x := x) (y := 0) q)).2.1) ho hq z) (ky q)
  · exact OF.step (fun t z => XS.ifNo W.here W.hx rfl (hb W.by hd) rfl ((if0 _ _).trans (tlt (o_lt (x := x) (y := 0) q)).2.1) z) (kn q)
theorem o_if_gt {x : Int32} {o : Int} (W : OW p l e R s m args below meth c Z B ml own nm rt n0 z0 T h kk nn) (hd : decode B pc = .ok (.ifCond .gt o, 3)) (ho : 0 ≤ (pc : Int) + o) (hq : ((pc : Int) + o).toNat = pq) (hp : pc + 3 = pc')
    (ky : 0 < x.toInt → OF p e below n1 z1 EN Q T (mkF m pq L S)) (kn : x.toInt ≤ 0 → OF p e below n1 z1 EN Q T (mkF m pc' L S)) : OF p e below n1 z1 EN Q T (mkF m pc L (.int x :: S)) := by
  subst hp
  rcases Int.lt_or_le (0) (x.toInt) with q | q
  · exact OF.step (fun t z => XS.ifYes W.here W.hx rfl rfl (hb W.by hd) rfl ((if0 _ _).trans (tlt (o_lt (x := 0) (y := x) q)).2.2.1) ho hq z) (ky q)
  · exact OF.step (fun t z => XS.ifNo W.here W.hx rfl (hb W.by hd) rfl ((if0 _ _).trans (flt (o_nlt (x := 0) (y := x) q)).2.2.1) z) (kn q)
theorem o_if_le {x : Int32} {o : Int} (W : OW p l e R s m args below meth c Z B ml own nm rt n0 z0 T h kk nn) (hd : decode B pc = .ok (.ifCond .le o, 3)) (ho : 0 ≤ (pc : Int) + o) (hq : ((pc : Int) + o).toNat = pq) (hp : pc + 3 = pc')
    (ky : x.toInt ≤ 0 → OF p e below n1 z1 EN Q T (mkF m pq L S)) (kn : 0 < x.toInt → OF p e below n1 z1 EN Q T (mkF m pc' L S)) : OF p e below n1 z1 EN Q T (mkF m pc L (.int x :: S)) := by
  subst hp
  rcases (Int.lt_or_le (0) (x.toInt)).symm with q | q
  · exact OF.step (fun t z => XS.ifYes W.here W.hx rfl rfl (hb W.by hd) rfl ((if0 _ _).trans (flt (o_nlt (x := 0) (y := x) q)).2.2.2) ho hq z) (ky q)
  · exact OF.step (fun t z => XS.ifNo W.here W.hx rfl (hb W.by hd) rfl ((if0 _ _).trans (tlt (o_lt (x := 0) (y := x) q)).2.2.2) z) (kn q)
theorem o_if_eq {x : Int32} {o : Int} (W : OW p l e R s m args below meth c Z B ml own nm rt n0 z0 T h kk nn) (hd : decode B pc = .ok (.ifCond .eq o, 3)) (ho : 0 ≤ (pc : Int) + o) (hq : ((pc : Int) + o).toNat = pq) (hp : pc + 3 = pc')
    (ky : x.toInt = 0 → OF p e below n1 z1 EN Q T (mkF m pq L S)) (kn : ¬ x.toInt = 0 → OF p e below n1 z1 EN Q T (mkF m pc' L S)) : OF p e below n1 z1 EN Q T (mkF m pc L (.int x :: S)) := by
  subst hp
  rcases Decidable.em (x.toInt = 0) with q | q
  · exact OF.step (fun t z => XS.ifYes W.here W.hx rfl rfl (hb W.by hd) rfl ((if0 _ _).trans (teq (o_eq (x := x) (y := 0) q)).1) ho hq z) (ky q)
  · exact OF.step (fun t z => XS.ifNo W.here W.hx rfl (hb W.by hd) rfl ((if0 _ _).trans (feq (o_ne (x := x) (y := 0) q)).1) z) (kn q)
theorem o_if_ne {x : Int32} {o : Int} (W : OW p l e R s m args below meth c Z B ml own nm rt n0 z0 T h kk nn) (hd : decode B pc = .ok (.ifCond .ne o, 3)) (ho : 0 ≤ (pc : Int) + o) (hq : ((pc : Int) + o).toNat = pq) (hp : pc + 3 = pc')
    (ky : ¬ x.toInt = 0 → OF p e below n1 z1 EN Q T (mkF m pq L S)) (kn : x.toInt = 0 → OF p e below n1 z1 EN Q T (mkF m pc' L S)) : OF p e below n1 z1 EN Q T (mkF m pc L (.int x :: S)) := by
  subst hp
  rcases (Decidable.em (x.toInt = 0)).symm with q | q
  · exact OF.step (fun t z => XS.ifYes W.here W.hx rfl rfl (hb W.by hd) rfl ((if0 _ _).trans (feq (o_ne (x := x) (y := 0) q)).2) ho hq z) (ky q)
  · exact OF.step (fun t z => XS.ifNo W.here W.hx rfl (hb W.by hd) rfl ((if0 _ _).trans (teq (o_eq (x := x) (y := 0) q)).2) z) (kn q)
theorem o_lcmp_lt {x y : Int64} {o : Int} {pc1 : Nat} (W : OW p l e R s m args below meth c Z B ml own nm rt n0 z0 T h kk nn) (hd : decode B pc = .ok (.lcmp, 1)) (h1 : pc + 1 = pc1) (hd2 : decode B pc1 = .ok (.ifCond .lt o, 3)) (ho : 0 ≤ (pc1 : Int) + o) (hq : ((pc1 : Int) + o).toNat = pq) (hp : pc1 + 3 = pc')
    (ky : x.toInt < y.toInt → OF p e below n1 z1 EN Q T (mkF m pq L S)) (kn : y.toInt ≤ x.toInt → OF p e below n1 z1 EN Q T (mkF m pc' L S)) : OF p e below n1 z1 EN Q T (mkF m pc L (.long y :: .long x :: S)) := by
  subst h1; subst hp
  refine OF.step (T' := T) (f' := mkF m (pc + 1) L (.int (lcmpW x y) :: S)) (fun t z => XS.lcmp W.here W.hx rfl (hb W.by hd) rfl z) ?_
  rcases Int.lt_or_le (x.toInt) (y.toInt) with q | q
  · exact OF.step (fun t z => XS.ifYes W.here W.hx rfl rfl (hb W.by hd2) rfl ((if0 _ _).trans (tlt ((lw_lt x y).mpr (o_llt q))).1) ho hq z) (ky q)
  · exact OF.step (fun t z => XS.ifNo W.here W.hx rfl (hb W.by hd2) rfl ((if0 _ _).trans (flt (fun z => o_nllt q ((lw_lt x y).mp z))).1) z) (kn q)
theorem o_lcmp_ge {x y : Int64} {o : Int} {pc1 : Nat} (W : OW p l e R s m args below meth c Z B ml own nm rt n0 z0 T h kk nn) (hd : decode B pc = .ok (.lcmp, 1)) (h1 : pc + 1 = pc1) (hd2 : decode B pc1 = .ok (.ifCond .ge o, 3)) (ho : 0 ≤ (pc1 : Int) + o) (hq : ((pc1 : Int) + o).toNat = pq) (hp : pc1 + 3 = pc')
    (ky : y.toInt ≤ x.toInt → OF p e below n1 z1 EN Q T (mkF m pq L S)) (kn : x.toInt < y.toInt → OF p e below n1 z1 EN Q T (mkF m pc' L S)) : OF p e below n1 z1 EN Q T (mkF m pc L (.long y :: .long x :: S)) := by
  subst h1; subst hp
  refine OF.step (T' := T) (f' := mkF m (pc + 1) L (.int (lcmpW x y) :: S)) (fun t z => XS.lcmp W.here W.hx rfl (hb W.by hd) rfl z) ?_
  rcases (Int.lt_or_le (x.toInt) (y.toInt)).symm with q | q
  · exact OF.step (fun t z => XS.ifYes W.here W.hx rfl rfl (hb W.by hd2) rfl ((if0 _ _).trans (flt (fun z => o_nllt q ((lw_lt x y).mp z))).2.1) ho hq z) (ky q)
  · exact OF.step (fun t z => XS.ifNo W.here W.hx rfl (hb W.by hd2) rfl ((if0 _ _).trans (tlt ((lw_lt x y).mpr (o_llt q))).2.1) z) (kn q)
theorem o_lcmp_gt {x y : Int64} {o : Int} {pc1 : Nat} (W : OW p l e R s m args below meth c Z B ml own nm rt n0 z0 T h kk nn) (hd : decode B pc = .ok (.lcmp, 1)) (h1 : pc + 1 = pc1) (hd2 : decode B pc1 = .ok (.ifCond .gt o, 3)) (ho : 0 ≤ (pc1 : Int) + o) (hq : ((pc1 : Int) + o).toNat = pq) (hp : pc1 + 3 = pc')
    (ky : y.toInt < x.toInt → OF p e below n1 z1 EN Q T (mkF m pq L S)) (kn : x.toInt ≤ y.toInt → OF p e below n1 z1 EN Q T (mkF m pc' L S)) : OF p e below n1 z1 EN Q T (mkF m pc L (.long y :: .long x :: S)) := by
  subst h1; subst hp
  refine OF.step (T' := T) (f' := mkF m (pc + 1) L (.int (lcmpW x y) :: S)) (fun t z => XS.lcmp W.here W.hx rfl (hb W.by hd) rfl z) ?_
  rcases Int.lt_or_le (y.toInt) (x.toInt) with q | q
  · exact OF.step (fun t z => XS.ifYes W.here W.hx rfl rfl (hb W.by hd2) rfl ((if0 _ _).trans (tlt ((lw_gt x y).mpr (o_llt q))).2.2.1) ho hq z) (ky q)
  · exact OF.step (fun t z => XS.ifNo W.here W.hx rfl (hb W.by hd2) rfl ((if0 _ _).trans (flt (fun z => o_nllt q ((lw_gt x y).mp z))).2.2.1) z) (kn q)
theorem o_lcmp_le {x y : Int64} {o : Int} {pc1 : Nat} (W : OW p l e R s m args below meth c Z B ml own nm rt n0 z0 T h kk nn) (hd : decode B pc = .ok (.lcmp, 1)) (h1 : pc + 1 = pc1) (hd2 : decode B pc1 = .ok (.ifCond .le o, 3)) (ho : 0 ≤ (pc1 : Int) + o) (hq : ((pc1 : Int) + o).toNat = pq) (hp : pc1 + 3 = pc')
    (ky : x.toInt ≤ y.toInt → OF p e below n1 z1 EN Q T (mkF m pq L S)) (kn : y.toInt < x.toInt → OF p e below n1 z1 EN Q T (mkF m pc' L S)) : OF p e below n1 z1 EN Q T (mkF m pc L (.long y :: .long x :: S)) := by
  subst h1; subst hp
  refine OF.step (T' := T) (f' := mkF m (pc + 1) L (.int (lcmpW x y) :: S)) (fun t z => XS.lcmp W.here W.hx rfl (hb W.by hd) rfl z) ?_
  rcases (Int.lt_or_le (y.toInt) (x.toInt)).symm with q | q
  · exact OF.step (fun t z => XS.ifYes W.here W.hx rfl rfl (hb W.by hd2) rfl ((if0 _ _).trans (flt (fun z => o_nllt q ((lw_gt x y).mp z))).2.2.2) ho hq z) (ky q)
  · exact OF.step (fun t z => XS.ifNo W.here W.hx rfl (hb W.by hd2) rfl ((if0 _ _).trans (tlt ((lw_gt x y).mpr (o_llt q))).2.2.2) z) (kn q)
theorem o_lcmp_eq {x y : Int64} {o : Int} {pc1 : Nat} (W : OW p l e R s m args below meth c Z B ml own nm rt n0 z0 T h kk nn) (hd : decode B pc = .ok (.lcmp, 1)) (h1 : pc + 1 = pc1) (hd2 : decode B pc1 = .ok (.ifCond .eq o, 3)) (ho : 0 ≤ (pc1 : Int) + o) (hq : ((pc1 : Int) + o).toNat = pq) (hp : pc1 + 3 = pc')
    (ky : x.toInt = y.toInt → OF p e below n1 z1 EN Q T (mkF m pq L S)) (kn : ¬ x.toInt = y.toInt → OF p e below n1 z1 EN Q T (mkF m pc' L S)) : OF p e below n1 z1 EN Q T (mkF m pc L (.long y :: .long x :: S)) := by
  subst h1; subst hp
  refine OF.step (T' := T) (f' := mkF m (pc + 1) L (.int (lcmpW x y) :: S)) (fun t z => XS.lcmp W.here W.hx rfl (hb W.by hd) rfl z) ?_
  rcases Decidable.em (x.toInt = y.toInt) with q | q
  · exact OF.step (fun t z => XS.ifYes W.here W.hx rfl rfl (hb W.by hd2) rfl ((if0 _ _).trans (teq ((lw_eq x y).mpr (o_leq q))).1) ho hq z) (ky q)
  · exact OF.step (fun t z => XS.ifNo W.here W.hx rfl (hb W.by hd2) rfl ((if0 _ _).trans (feq (fun z => o_lne q ((lw_eq x y).mp z))).1) z) (kn q)
theorem o_lcmp_ne {x y : Int64} {o : Int} {pc1 : Nat} (W : OW p l e R s m args below meth c Z B ml own nm rt n0 z0 T h kk nn) (hd : decode B pc = .ok (.lcmp, 1)) (h1 : pc + 1 = pc1) (hd2 : decode B pc1 = .ok (.ifCond .ne o, 3)) (ho : 0 ≤ (pc1 : Int) + o) (hq : ((pc1 : Int) + o).toNat = pq) (hp : pc1 + 3 = pc')
    (ky : ¬ x.toInt = y.toInt → OF p e below n1 z1 EN Q T (mkF m pq L S)) (kn : x.toInt = y.toInt → OF p e below n1 z1 EN Q T (mkF m pc' L S)) : OF p e below n1 z1 EN Q T (mkF m pc L (.long y :: .long x :: S)) := by
  subst h1; subst hp
  refine OF.step (T' := T) (f' := mkF m (pc + 1) L (.int (lcmpW x y) :: S)) (fun t z => XS.lcmp W.here W.hx rfl (hb W.by hd) rfl z) ?_
  rcases (Decidable.em (x.toInt = y.toInt)).symm with q | q
  · exact OF.step (fun t z => XS.ifYes W.here W.hx rfl rfl (hb W.by hd2) rfl ((if0 _ _).trans (feq (fun z => o_lne q ((lw_eq x y).mp z))).2) ho hq z) (ky q)
  · exact OF.step (fun t z => XS.ifNo W.here W.hx rfl (hb W.by hd2) rfl ((if0 _ _).trans (teq ((lw_eq x y).mpr (o_leq q))).2) z) (kn q)
abbrev QI (P : Int32 → Heap → Prop) : Option Value → Heap → Prop := fun v h => ∃ r, v = some (.int r) ∧ P r h
abbrev QJ (P : Int64 → Heap → Prop) : Option Value → Heap → Prop := fun v h => ∃ r, v = some (.long r) ∧ P r h
abbrev QA (P : Addr → Heap → Prop) : Option Value → Heap → Prop := fun v h => ∃ r, v = some (.ref r) ∧ P r h
abbrev QV (P : Heap → Prop) : Option Value → Heap → Prop := fun v h => v = none ∧ P h
theorem o_retN {t : FieldType} {z : Int32} (W : OW p l e R s m args below meth c Z B ml own nm rt n0 z0 T h kk nn) (hrt : rt = some t) (ht : t = .boolean ∨ t = .byte ∨ t = .char ∨ t = .short) (hd : decode B pc = .ok (.ireturn, 1)) (hk : kk ≤ kc) (hn : nn ≤ ns) (hQ : Q (some (.int (nar t z))) h) :
    OF p e below n0 z0 (ENn s kc ns) Q T (mkF m pc L (.int z :: S)) := by
  obtain ⟨⟨hx, hZ, hby, hml, hown, hnm, hr, hlk⟩, hz, hz', rfl, locs, X, N⟩ := W
  subst hrt
  obtain ⟨fs, hl, h1, h2, h3, h4⟩ := X.leave (v := some (.int (nar t z))) (fun q => by rw [hr] at q; cases q) hlk
  exact ⟨_, _, retN X hx hr ht (hb hby hd) hl, h1, h2, _, _, rfl, ⟨hQ, hz', N⟩, ⟨_, rfl⟩, h3, h4.mono hk hn⟩
theorem o_retI {z : Int32} (W : OW p l e R s m args below meth c Z B ml own nm rt n0 z0 T h kk nn) (hrt : rt = some .int) (hd : decode B pc = .ok (.ireturn, 1)) (hk : kk ≤ kc) (hn : nn ≤ ns) (hQ : Q (some (.int z)) h) :
    OF p e below n0 z0 (ENn s kc ns) Q T (mkF m pc L (.int z :: S)) := by
  obtain ⟨⟨hx, hZ, hby, hml, hown, hnm, hr, hlk⟩, hz, hz', rfl, locs, X, N⟩ := W
  subst hrt
  obtain ⟨fs, hl, h1, h2, h3, h4⟩ := X.leave (v := some (.int z)) (fun q => by rw [hr] at q; cases q) hlk
  exact ⟨_, _, retOut X hx hr rfl (Or.inl ⟨rfl, Or.inl rfl, _, rfl⟩) (hb hby hd) hl, h1, h2, _, _, rfl, ⟨hQ, hz', N⟩, ⟨_, rfl⟩, h3, h4.mono hk hn⟩
theorem o_retJ {z : Int64} (W : OW p l e R s m args below meth c Z B ml own nm rt n0 z0 T h kk nn) (hrt : rt = some .long) (hd : decode B pc = .ok (.lreturn, 1)) (hk : kk ≤ kc) (hn : nn ≤ ns) (hQ : Q (some (.long z)) h) :
    OF p e below n0 z0 (ENn s kc ns) Q T (mkF m pc L (.long z :: S)) := by
  obtain ⟨⟨hx, hZ, hby, hml, hown, hnm, hr, hlk⟩, hz, hz', rfl, locs, X, N⟩ := W
  subst hrt
  obtain ⟨fs, hl, h1, h2, h3, h4⟩ := X.leave (v := some (.long z)) (fun q => by rw [hr] at q; cases q) hlk
  exact ⟨_, _, retOut X hx hr rfl (Or.inr (Or.inl ⟨rfl, rfl, _, rfl⟩)) (hb hby hd) hl, h1, h2, _, _, rfl, ⟨hQ, hz', N⟩, ⟨_, rfl⟩, h3, h4.mono hk hn⟩
theorem o_retA {t : FieldType} {z : Value} (W : OW p l e R s m args below meth c Z B ml own nm rt n0 z0 T h kk nn) (hrt : rt = some t) (ht : t.isReference = true) (hv : z.isRef = true) (hnz : narrow t z = z) (hd : decode B pc = .ok (.areturn, 1)) (hk : kk ≤ kc) (hn : nn ≤ ns) (hQ : Q (some z) h) :
    OF p e below n0 z0 (ENn s kc ns) Q T (mkF m pc L (z :: S)) := by
  obtain ⟨⟨hx, hZ, hby, hml, hown, hnm, hr, hlk⟩, hz, hz', rfl, locs, X, N⟩ := W
  subst hrt
  obtain ⟨fs, hl, h1, h2, h3, h4⟩ := X.leave (v := some z) (fun q => by rw [hr] at q; cases q) hlk
  exact ⟨_, _, retOut X hx hr hnz (Or.inr (Or.inr (Or.inr (Or.inr ⟨rfl, ht, hv⟩)))) (hb hby hd) hl, h1, h2, _, _, rfl, ⟨hQ, hz', N⟩, ⟨_, rfl⟩, h3, h4.mono hk hn⟩
theorem o_retV (W : OW p l e R s m args below meth c Z B ml own nm rt n0 z0 T h kk nn) (hrt : rt = none) (hd : decode B pc = .ok (.return_, 1)) (hk : kk ≤ kc) (hn : nn ≤ ns) (hQ : Q none h) :
    OF p e below n0 z0 (ENn s kc ns) Q T (mkF m pc L []) := by
  obtain ⟨⟨hx, hZ, hby, hml, hown, hnm, hr, hlk⟩, hz, hz', rfl, locs, X, N⟩ := W
  subst hrt
  obtain ⟨fs, hl, h1, h2, h3, h4⟩ := X.leave (v := none) (fun _ => rfl) hlk
  exact ⟨_, _, X.returnOut hx hr (hb hby hd) hl, h1, h2, _, _, rfl, ⟨hQ, hz', N⟩, ⟨_, rfl⟩, h3, h4.mono hk hn⟩
/-- a body's contract: called with 'as' at the heap h0 it returns what Q says -/
def OCon (l : Launch) (Z : State) (y : MethodName) (B : ByteArray) (ml : Nat) (rt : Option FieldType) (ws : List Jvm.Cond) (rm : Room) (as : Array Value) (h0 : Heap) (n0 : Nat) (Q : Option Value → Heap → Prop) : Prop :=
  MetFree l y (head1 (Jvm.Cond.code y B ml rt :: ws) rm) (fun a U => a = as ∧ Z.Warmed39 U.vm ∧ U.heap = h0) (fun _ _ _ _ _ => True)
    (fun _ U o U' => ∃ v L, o = .returned v ∧ OQ Q h0.size n0 v U'.heap L ∧ FrameEnd U o U' L rm.cells rm.slots)
theorem OCon.mk {y : MethodName} {ws : List Jvm.Cond} {rm : Room} {as : Array Value} {h0 : Heap} (hpl : plainFor y = true) (hz : n0 ≤ h0.size)
    (body : ∀ (p : Program) (e : Env) (s : State) (m : MethodId) (below : List Frame) (meth : Method) (c : Code) (s₁ : State), OW p l e rm s m as below meth c Z B ml y.cls y.name rt n0 h0.size s₁ h0 0 0 → OF p e below n0 h0.size (ENn s rm.cells rm.slots) Q s₁ (entryFrame m as ml)) :
    OCon l Z y B ml rt ws rm as h0 n0 Q := by
  refine MetFree.of_bodySF hpl hisR ?_
  intro p e s m args below meth c s₁ Bd hml0 hP hK
  obtain ⟨rfl, hZ, hh⟩ := hP
  exact body p e s m below meth c s₁ ⟨⟨Bd.exec, hZ, Bd.bytes, hml0, findClass_of_methodNamed Bd.named, (name_of_methodNamed Bd.named Bd.method).1, Bd.returns, Bd.notSynchronized⟩, hz, Nat.le_refl _, by rw [← hh, Bd.state]; rfl, [], Stand.of_body Bd, Fr.nil _⟩
theorem o_callS {index : Nat} {y : MethodName} {B' : ByteArray} {ml' wt : Nat} {rt' : Option FieldType} {rm : Room} {as : Array Value} {Q' : Option Value → Heap → Prop} {argsL : List Value} {st : List Value} (W : OW p l e R s m args below meth c Z B ml own nm rt n0 z0 T h kk nn)
    (C : OCon l Z y B' ml' rt' [] rm as h n0 Q') (w1 : (Jvm.Cond.methodLink own index y).before a0 Z = true) (w2 : (Jvm.Cond.static y).before a0 Z = true) (w3 : (Jvm.Cond.initialized y.cls).before a0 Z = true) (w4 : (Jvm.Cond.code y B' ml' rt').before a0 Z = true)
    (hy : y.cls ≠ "java/lang/invoke/MethodHandle" ∧ y.cls ≠ "java/lang/invoke/VarHandle") (hlen : ∀ sig, parseMethodDescriptor y.desc = some sig → argsL.length = sig.parameters.length) (has : argsL.toArray = as) (hst : st = argsL.reverse ++ S) (hL : L.size = ml)
    (hwt : (S.map fun v => v.category).sum = wt) (hfr : rm.frames + 1 ≤ R.frames) (hlo : wt + (ml' + 11) + rm.locals ≤ R.locals) (hcl : kk + rm.cells ≤ R.cells) (hsl : nn + rm.slots ≤ R.slots) (hk' : kk + rm.cells = kk') (hn' : nn + rm.slots = nn')
    (hd : decode B pc = .ok (.invokestatic index, 3)) (hp : pc + 3 = pc')
    (k1 : ∀ v T' h', OW p l e R s m args below meth c Z B ml own nm rt n0 z0 T' h' kk' nn' → Q' v h' → h.size ≤ h'.size → OF p e below n1 z1 EN Q T' (mkF m pc' L (v.toList ++ S))) : OF p e below n1 z1 EN Q T (mkF m pc L st) := by
  subst hp has hk' hn' hst
  obtain ⟨cx, hz, hz', eT, locs, X, N⟩ := W
  obtain ⟨hx, hZ, hby, hml, hown, hnm, hr, hlk⟩ := cx
  obtain ⟨v, _, ⟨T', L2, k2, n2⟩, -, X2, ⟨Lc, hQ, l2, y2, z2⟩, st2⟩ := Jvm.LawKit.callS X hx (y := y) hown (mvT hZ w1) (mvT hZ w2) (mvT hZ w3) (mvT hZ w4) hy (backOf (W := wt) (Q := OQ Q' h.size n0) C hZ w4 w3 hfr hlo) (g := mkF m pc L (argsL.reverse ++ S)) rfl (hL.trans hml.symm) (argsL := argsL) (rest := S) hlen rfl
    (by show 2 * 0 + _ ≤ _; rw [hwt]; omega) (hb hby hd) (fun _ _ => ⟨rfl, eT, hcl, hsl⟩)
  dsimp only [Pt.U, Pt.locs, Pt.cells, Pt.slots] at X2 l2 y2 z2 st2 hQ
  subst l2 y2 z2
  obtain ⟨q1, q2, q3⟩ := hQ
  exact OF.step (fun t z => st2 t z) (k1 v T' T'.heap ⟨⟨hx, hZ, hby, hml, hown, hnm, hr, hlk⟩, hz, Nat.le_trans hz' q2, rfl, _, X2, Fr.app N q3⟩ q1 q2)
theorem o_callSI {index : Nat} {y : MethodName} {B' : ByteArray} {ml' wt : Nat} {rt' : Option FieldType} {rm : Room} {as : Array Value} {P' : Int32 → Heap → Prop} {argsL : List Value} {st : List Value} (W : OW p l e R s m args below meth c Z B ml own nm rt n0 z0 T h kk nn)
    (C : OCon l Z y B' ml' rt' [] rm as h n0 (QI P')) (w1 : (Jvm.Cond.methodLink own index y).before a0 Z = true) (w2 : (Jvm.Cond.static y).before a0 Z = true) (w3 : (Jvm.Cond.initialized y.cls).before a0 Z = true) (w4 : (Jvm.Cond.code y B' ml' rt').before a0 Z = true)
    (hy : y.cls ≠ "java/lang/invoke/MethodHandle" ∧ y.cls ≠ "java/lang/invoke/VarHandle") (hlen : ∀ sig, parseMethodDescriptor y.desc = some sig → argsL.length = sig.parameters.length) (has : argsL.toArray = as) (hst : st = argsL.reverse ++ S) (hL : L.size = ml)
    (hwt : (S.map fun v => v.category).sum = wt) (hfr : rm.frames + 1 ≤ R.frames) (hlo : wt + (ml' + 11) + rm.locals ≤ R.locals) (hcl : kk + rm.cells ≤ R.cells) (hsl : nn + rm.slots ≤ R.slots) (hk' : kk + rm.cells = kk') (hn' : nn + rm.slots = nn')
    (hd : decode B pc = .ok (.invokestatic index, 3)) (hp : pc + 3 = pc')
    (k1 : ∀ r T' h', OW p l e R s m args below meth c Z B ml own nm rt n0 z0 T' h' kk' nn' → P' r h' → h.size ≤ h'.size → OF p e below n1 z1 EN Q T' (mkF m pc' L (.int r :: S))) : OF p e below n1 z1 EN Q T (mkF m pc L st) :=
  o_callS W C w1 w2 w3 w4 hy hlen has hst hL hwt hfr hlo hcl hsl hk' hn' hd hp (fun v T' h' W' q z => by
    obtain ⟨r, rfl, q⟩ := q
    exact k1 r T' h' W' q z)
theorem o_callSJ {index : Nat} {y : MethodName} {B' : ByteArray} {ml' wt : Nat} {rt' : Option FieldType} {rm : Room} {as : Array Value} {P' : Int64 → Heap → Prop} {argsL : List Value} {st : List Value} (W : OW p l e R s m args below meth c Z B ml own nm rt n0 z0 T h kk nn)
    (C : OCon l Z y B' ml' rt' [] rm as h n0 (QJ P')) (w1 : (Jvm.Cond.methodLink own index y).before a0 Z = true) (w2 : (Jvm.Cond.static y).before a0 Z = true) (w3 : (Jvm.Cond.initialized y.cls).before a0 Z = true) (w4 : (Jvm.Cond.code y B' ml' rt').before a0 Z = true)
    (hy : y.cls ≠ "java/lang/invoke/MethodHandle" ∧ y.cls ≠ "java/lang/invoke/VarHandle") (hlen : ∀ sig, parseMethodDescriptor y.desc = some sig → argsL.length = sig.parameters.length) (has : argsL.toArray = as) (hst : st = argsL.reverse ++ S) (hL : L.size = ml)
    (hwt : (S.map fun v => v.category).sum = wt) (hfr : rm.frames + 1 ≤ R.frames) (hlo : wt + (ml' + 11) + rm.locals ≤ R.locals) (hcl : kk + rm.cells ≤ R.cells) (hsl : nn + rm.slots ≤ R.slots) (hk' : kk + rm.cells = kk') (hn' : nn + rm.slots = nn')
    (hd : decode B pc = .ok (.invokestatic index, 3)) (hp : pc + 3 = pc')
    (k1 : ∀ r T' h', OW p l e R s m args below meth c Z B ml own nm rt n0 z0 T' h' kk' nn' → P' r h' → h.size ≤ h'.size → OF p e below n1 z1 EN Q T' (mkF m pc' L (.long r :: S))) : OF p e below n1 z1 EN Q T (mkF m pc L st) :=
  o_callS W C w1 w2 w3 w4 hy hlen has hst hL hwt hfr hlo hcl hsl hk' hn' hd hp (fun v T' h' W' q z => by
    obtain ⟨r, rfl, q⟩ := q
    exact k1 r T' h' W' q z)
theorem o_callSA {index : Nat} {y : MethodName} {B' : ByteArray} {ml' wt : Nat} {rt' : Option FieldType} {rm : Room} {as : Array Value} {P' : Addr → Heap → Prop} {argsL : List Value} {st : List Value} (W : OW p l e R s m args below meth c Z B ml own nm rt n0 z0 T h kk nn)
    (C : OCon l Z y B' ml' rt' [] rm as h n0 (QA P')) (w1 : (Jvm.Cond.methodLink own index y).before a0 Z = true) (w2 : (Jvm.Cond.static y).before a0 Z = true) (w3 : (Jvm.Cond.initialized y.cls).before a0 Z = true) (w4 : (Jvm.Cond.code y B' ml' rt').before a0 Z = true)
    (hy : y.cls ≠ "java/lang/invoke/MethodHandle" ∧ y.cls ≠ "java/lang/invoke/VarHandle") (hlen : ∀ sig, parseMethodDescriptor y.desc = some sig → argsL.length = sig.parameters.length) (has : argsL.toArray = as) (hst : st = argsL.reverse ++ S) (hL : L.size = ml)
    (hwt : (S.map fun v => v.category).sum = wt) (hfr : rm.frames + 1 ≤ R.frames) (hlo : wt + (ml' + 11) + rm.locals ≤ R.locals) (hcl : kk + rm.cells ≤ R.cells) (hsl : nn + rm.slots ≤ R.slots) (hk' : kk + rm.cells = kk') (hn' : nn + rm.slots = nn')
    (hd : decode B pc = .ok (.invokestatic index, 3)) (hp : pc + 3 = pc')
    (k1 : ∀ r T' h', OW p l e R s m args below meth c Z B ml own nm rt n0 z0 T' h' kk' nn' → P' r h' → h.size ≤ h'.size → OF p e below n1 z1 EN Q T' (mkF m pc' L (.ref r :: S))) : OF p e below n1 z1 EN Q T (mkF m pc L st) :=
  o_callS W C w1 w2 w3 w4 hy hlen has hst hL hwt hfr hlo hcl hsl hk' hn' hd hp (fun v T' h' W' q z => by
    obtain ⟨r, rfl, q⟩ := q
    exact k1 r T' h' W' q z)
/-- an array of ints, bytes or chars at a, with these components -/
def OA (Z : State) (h : Heap) (a : Addr) (ty : FieldType) (xs : List Int32) : Prop := xs.length < 2 ^ 31 ∧ (∀ x ∈ xs, fits ty (.int x) = true) ∧ ∃ cl : Cell, Arr Z h a cl ty ∧ cl.slots = (xs.map Value.int).toArray
theorem OA.lt {a : Addr} {ty : FieldType} {xs : List Int32} (A : OA Z h a ty xs) : a < h.size := by obtain ⟨_, _, _, A, _⟩ := A; exact A.lt
theorem OA.ext {a : Addr} {ty : FieldType} {xs : List Int32} (A : OA Z h a ty xs) (E : Ext h h') : OA Z h' a ty xs := by obtain ⟨q1, q2, cl, A, q3⟩ := A; exact ⟨q1, q2, cl, A.ext E, q3⟩
theorem OA.keep {a : Addr} {ty : FieldType} {xs : List Int32} {ws : List Addr} (A : OA Z h a ty xs) (K : Keep h h' ws) (q : a ∉ ws) : OA Z h' a ty xs := by obtain ⟨q1, q2, cl, A, q3⟩ := A; exact ⟨q1, q2, cl, ⟨K.2.1 a cl A.1 q, A.2⟩, q3⟩
theorem OA.keep1 {a b : Addr} {ty : FieldType} {xs : List Int32} (A : OA Z h a ty xs) (K : Keep h h' [b]) (q : a ≠ b) : OA Z h' a ty xs := A.keep K (by simpa using q)
theorem OA.len {a : Addr} {ty : FieldType} {xs : List Int32} (A : OA Z h a ty xs) : xs.length < 2 ^ 31 := A.1
theorem o_tn (x : Int32) : x.toNatClampNeg = x.toInt.toNat := rfl
theorem o_nat {j : Int32} {i : Nat} (q : j.toInt = i) : j.toNatClampNeg = i := by rw [o_tn, q]; exact Int.toNat_natCast i
theorem o_in {j : Int32} {i : Nat} {xs : List Int32} {cl : Cell} (hi : j.toInt = i) (hs : cl.slots = (xs.map Value.int).toArray) (q : i < xs.length) : ¬ (j < 0 ∨ cl.slots.size ≤ j.toNatClampNeg) := by
  rw [o_nat hi, hs]; simp only [List.size_toArray, List.length_map, Int32.lt_iff_toInt_lt, hi, o_zero]; omega
theorem o_newarray {aty : ArrayType} {ty : FieldType} {v : Int32} {len cap : Nat} (W : OW p l e R s m args below meth c Z B ml own nm rt n0 z0 T h kk nn) (w : (Jvm.Cond.arrayClass ty).before a0 Z = true) (hty : newarray.typeOf aty = ty) (hdv : defaultValue ty = .int 0) (hft : fits ty (.int 0) = true) (hd : decode B pc = .ok (.newarray aty, 2)) (hp : pc + 2 = pc')
    (hv : v.toInt = len) (hlc : len ≤ cap) (hcap : cap * 8 ≤ 536870912) (hc : kk + 1 ≤ R.cells) (hl : nn + cap ≤ R.slots) (hk' : kk + 1 = kk') (hn' : nn + cap = nn')
    (k1 : ∀ T' h' a, OW p l e R s m args below meth c Z B ml own nm rt n0 z0 T' h' kk' nn' → Ext h h' → a = h.size → OA Z h' a ty (List.replicate len 0) → OF p e below n1 z1 EN Q T' (mkF m pc' L (.ref a :: S))) : OF p e below n1 z1 EN Q T (mkF m pc L (.int v :: S)) := by
  subst hp hk' hn' hty
  obtain ⟨cx, hz, hz', eT, locs, X, N⟩ := W
  obtain ⟨hx, hZ, hby, hml, hown, hnm, hr, hlk⟩ := cx
  obtain ⟨T', h', cA, X', e', E, A, st⟩ := newP X hx hZ w eT (g := mkF m pc L (.int v :: S)) rfl (hb hby hd) rfl (o_nlt (by rw [hv, o_zero]; omega)) (cap := cap) (by rw [o_nat hv]; exact hlc) hcap hc hl
  refine OF.step (fun t z => st t z) (k1 T' h' h.size ⟨⟨hx, hZ, hby, hml, hown, hnm, hr, hlk⟩, hz, Nat.le_trans hz' E.1, e', _, X', N⟩ E rfl ⟨by rw [List.length_replicate]; omega, fun x hx => by rw [List.mem_replicate] at hx; rw [hx.2]; exact hft, _, A, ?_⟩)
  simp [newA, hdv, o_nat hv]
theorem o_iaload {a : Addr} {xs : List Int32} {j v : Int32} {i : Nat} (W : OW p l e R s m args below meth c Z B ml own nm rt n0 z0 T h kk nn) (A : OA Z h a .int xs) (hd : decode B pc = .ok (.iaload, 1)) (hp : pc + 1 = pc') (hi : j.toInt = i) (hv : xs[i]? = some v)
    (k1 : OF p e below n1 z1 EN Q T (mkF m pc' L (.int v :: S))) : OF p e below n1 z1 EN Q T (mkF m pc L (.int j :: .ref a :: S)) := by
  subst hp
  obtain ⟨cx, hz, hz', eT, locs, X, N⟩ := W
  obtain ⟨hx, hZ, hby, hml, hown, hnm, hr, hlk⟩ := cx
  obtain ⟨q1, q2, cl, A, q3⟩ := A
  have hlt : i < xs.length := (List.getElem?_eq_some_iff.mp hv).1
  exact OF.step (fun t z => X.iaload hx (j := j) (v := .int v) (by rw [eT]; exact A.1) (State.isArrayOf_alike hZ.alike A.2.1) A.2.2 (o_in hi q3 hlt) (by rw [o_nat hi, q3]; simp [hv]) (g := mkF m pc L (.int j :: .ref a :: S)) rfl rfl (hb hby hd) t z) k1
theorem o_baload {a : Addr} {xs : List Int32} {j v : Int32} {i : Nat} (W : OW p l e R s m args below meth c Z B ml own nm rt n0 z0 T h kk nn) (A : OA Z h a .byte xs) (hd : decode B pc = .ok (.baload, 1)) (hp : pc + 1 = pc') (hi : j.toInt = i) (hv : xs[i]? = some v)
    (k1 : OF p e below n1 z1 EN Q T (mkF m pc' L (.int v :: S))) : OF p e below n1 z1 EN Q T (mkF m pc L (.int j :: .ref a :: S)) := by
  subst hp
  obtain ⟨cx, hz, hz', eT, locs, X, N⟩ := W
  obtain ⟨hx, hZ, hby, hml, hown, hnm, hr, hlk⟩ := cx
  obtain ⟨q1, q2, cl, A, q3⟩ := A
  have hlt : i < xs.length := (List.getElem?_eq_some_iff.mp hv).1
  exact OF.step (fun t z => X.baloadBytes hx (j := j) (v := .int v) (by rw [eT]; exact A.1) (State.isArrayOf_alike hZ.alike A.2.1) A.2.2 (o_in hi q3 hlt) (by rw [o_nat hi, q3]; simp [hv]) (g := mkF m pc L (.int j :: .ref a :: S)) rfl rfl (hb hby hd) t z) k1
theorem o_caload {a : Addr} {xs : List Int32} {j v : Int32} {i : Nat} (W : OW p l e R s m args below meth c Z B ml own nm rt n0 z0 T h kk nn) (A : OA Z h a .char xs) (hd : decode B pc = .ok (.caload, 1)) (hp : pc + 1 = pc') (hi : j.toInt = i) (hv : xs[i]? = some v)
    (k1 : OF p e below n1 z1 EN Q T (mkF m pc' L (.int v :: S))) : OF p e below n1 z1 EN Q T (mkF m pc L (.int j :: .ref a :: S)) := by
  subst hp
  obtain ⟨cx, hz, hz', eT, locs, X, N⟩ := W
  obtain ⟨hx, hZ, hby, hml, hown, hnm, hr, hlk⟩ := cx
  obtain ⟨q1, q2, cl, A, q3⟩ := A
  have hlt : i < xs.length := (List.getElem?_eq_some_iff.mp hv).1
  exact OF.step (fun t z => X.caload hx (j := j) (v := .int v) (by rw [eT]; exact A.1) (State.isArrayOf_alike hZ.alike A.2.1) A.2.2 (o_in hi q3 hlt) (by rw [o_nat hi, q3]; simp [hv]) (g := mkF m pc L (.int j :: .ref a :: S)) rfl rfl (hb hby hd) t z) k1
theorem o_iastore {a : Addr} {xs : List Int32} {j x : Int32} {i : Nat} (W : OW p l e R s m args below meth c Z B ml own nm rt n0 z0 T h kk nn) (A : OA Z h a .int xs) (ha : n0 ≤ a) (hd : decode B pc = .ok (.iastore, 1)) (hp : pc + 1 = pc') (hi : j.toInt = i) (hlt : i < xs.length)
    (k1 : ∀ T' h', OW p l e R s m args below meth c Z B ml own nm rt n0 z0 T' h' kk nn → Keep h h' [a] → OA Z h' a .int (xs.set i (x)) → OF p e below n1 z1 EN Q T' (mkF m pc' L S)) : OF p e below n1 z1 EN Q T (mkF m pc L (.int x :: .int j :: .ref a :: S)) := by
  subst hp
  obtain ⟨cx, hz, hz', eT, locs, X, N⟩ := W
  obtain ⟨hx, hZ, hby, hml, hown, hnm, hr, hlk⟩ := cx
  obtain ⟨q1, q2, cl, A, q3⟩ := A
  obtain ⟨T', h', X', e', Wr', st⟩ := stI X hx hZ eT A (j := j) (x := x) (o_in hi q3 hlt) (g := mkF m pc L (.int x :: .int j :: .ref a :: S)) rfl rfl (hb hby hd)
  have Wr' : Wr h h' a j.toNatClampNeg (.int (x)) := Wr'
  refine OF.step (fun t z => st t z) (k1 T' h' ⟨⟨hx, hZ, hby, hml, hown, hnm, hr, hlk⟩, hz, Nat.le_trans hz' (Nat.le_of_eq Wr'.size.symm), e', _, X', Fr.snoc X' N ha⟩ (Keep.of_wr Wr') ⟨by rw [List.length_set]; exact q1, fun y hy => ?_, _, A.same Wr', ?_⟩)
  · rcases List.mem_or_eq_of_mem_set hy with hy | rfl
    · exact q2 y hy
    · exact rfl
  · rw [o_nat hi]; simp [Cell.setSlot, q3, List.map_set]; try rfl
theorem o_bastore {a : Addr} {xs : List Int32} {j x : Int32} {i : Nat} (W : OW p l e R s m args below meth c Z B ml own nm rt n0 z0 T h kk nn) (A : OA Z h a .byte xs) (ha : n0 ≤ a) (hd : decode B pc = .ok (.bastore, 1)) (hp : pc + 1 = pc') (hi : j.toInt = i) (hlt : i < xs.length)
    (k1 : ∀ T' h', OW p l e R s m args below meth c Z B ml own nm rt n0 z0 T' h' kk nn → Keep h h' [a] → OA Z h' a .byte (xs.set i (x.toInt8.toInt32)) → OF p e below n1 z1 EN Q T' (mkF m pc' L S)) : OF p e below n1 z1 EN Q T (mkF m pc L (.int x :: .int j :: .ref a :: S)) := by
  subst hp
  obtain ⟨cx, hz, hz', eT, locs, X, N⟩ := W
  obtain ⟨hx, hZ, hby, hml, hown, hnm, hr, hlk⟩ := cx
  obtain ⟨q1, q2, cl, A, q3⟩ := A
  obtain ⟨T', h', X', e', Wr', st⟩ := stB X hx hZ eT A (j := j) (x := x) (o_in hi q3 hlt) (g := mkF m pc L (.int x :: .int j :: .ref a :: S)) rfl rfl (hb hby hd)
  have Wr' : Wr h h' a j.toNatClampNeg (.int (x.toInt8.toInt32)) := Wr'
  refine OF.step (fun t z => st t z) (k1 T' h' ⟨⟨hx, hZ, hby, hml, hown, hnm, hr, hlk⟩, hz, Nat.le_trans hz' (Nat.le_of_eq Wr'.size.symm), e', _, X', Fr.snoc X' N ha⟩ (Keep.of_wr Wr') ⟨by rw [List.length_set]; exact q1, fun y hy => ?_, _, A.same Wr', ?_⟩)
  · rcases List.mem_or_eq_of_mem_set hy with hy | rfl
    · exact q2 y hy
    · exact fits_nar_byte x
  · rw [o_nat hi]; simp [Cell.setSlot, q3, List.map_set]; try rfl
theorem o_castore {a : Addr} {xs : List Int32} {j x : Int32} {i : Nat} (W : OW p l e R s m args below meth c Z B ml own nm rt n0 z0 T h kk nn) (A : OA Z h a .char xs) (ha : n0 ≤ a) (hd : decode B pc = .ok (.castore, 1)) (hp : pc + 1 = pc') (hi : j.toInt = i) (hlt : i < xs.length)
    (k1 : ∀ T' h', OW p l e R s m args below meth c Z B ml own nm rt n0 z0 T' h' kk nn → Keep h h' [a] → OA Z h' a .char (xs.set i (x.toUInt32.toUInt16.toUInt32.toInt32)) → OF p e below n1 z1 EN Q T' (mkF m pc' L S)) : OF p e below n1 z1 EN Q T (mkF m pc L (.int x :: .int j :: .ref a :: S)) := by
  subst hp
  obtain ⟨cx, hz, hz', eT, locs, X, N⟩ := W
  obtain ⟨hx, hZ, hby, hml, hown, hnm, hr, hlk⟩ := cx
  obtain ⟨q1, q2, cl, A, q3⟩ := A
  obtain ⟨T', h', X', e', Wr', st⟩ := stC X hx hZ eT A (j := j) (x := x) (o_in hi q3 hlt) (g := mkF m pc L (.int x :: .int j :: .ref a :: S)) rfl rfl (hb hby hd)
  have Wr' : Wr h h' a j.toNatClampNeg (.int (x.toUInt32.toUInt16.toUInt32.toInt32)) := Wr'
  refine OF.step (fun t z => st t z) (k1 T' h' ⟨⟨hx, hZ, hby, hml, hown, hnm, hr, hlk⟩, hz, Nat.le_trans hz' (Nat.le_of_eq Wr'.size.symm), e', _, X', Fr.snoc X' N ha⟩ (Keep.of_wr Wr') ⟨by rw [List.length_set]; exact q1, fun y hy => ?_, _, A.same Wr', ?_⟩)
  · rcases List.mem_or_eq_of_mem_set hy with hy | rfl
    · exact q2 y hy
    · exact fits_nar_char x
  · rw [o_nat hi]; simp [Cell.setSlot, q3, List.map_set]; try rfl
theorem o_arraylength {a : Addr} {ty : FieldType} {xs : List Int32} (W : OW p l e R s m args below meth c Z B ml own nm rt n0 z0 T h kk nn) (A : OA Z h a ty xs) (hd : decode B pc = .ok (.arraylength, 1)) (hp : pc + 1 = pc')
    (k1 : ∀ v : Int32, v.toInt = xs.length → OF p e below n1 z1 EN Q T (mkF m pc' L (.int v :: S))) : OF p e below n1 z1 EN Q T (mkF m pc L (.ref a :: S)) := by
  subst hp
  obtain ⟨cx, hz, hz', eT, locs, X, N⟩ := W
  obtain ⟨hx, hZ, hby, hml, hown, hnm, hr, hlk⟩ := cx
  obtain ⟨q1, q2, cl, A, q3⟩ := A
  have hs : cl.slots.size = xs.length := by rw [q3]; simp
  exact OF.step (fun t z => X.arraylength hx (by rw [eT]; exact A.1) (State.isArrayOf_alike hZ.alike A.2.1) (g := mkF m pc L (.ref a :: S)) rfl rfl (hb hby hd) t z) (k1 cl.slots.size.toInt32 (by rw [hs]; exact len_toInt q1))
theorem OF.join {α : Type} (Jn : α → Prop) (Tf : α → State) (fr : α → JFrame) {f : JFrame} (k1 : ∀ v, Jn v → OF p e below n1 z1 EN Q (Tf v) (fr v)) (k2 : (∀ v, Jn v → OF p e below n1 z1 EN Q (Tf v) (fr v)) → OF p e below n1 z1 EN Q T f) : OF p e below n1 z1 EN Q T f := k2 k1
theorem OF.loop {α : Type} (mu : α → Nat) (Jn : α → Prop) (Tf : α → State) (fr : α → JFrame) (k1 : ∀ v, Jn v → (∀ v', Jn v' → mu v' < mu v → OF p e below n1 z1 EN Q (Tf v') (fr v')) → OF p e below n1 z1 EN Q (Tf v) (fr v)) (v0 : α) (hv0 : Jn v0) : OF p e below n1 z1 EN Q (Tf v0) (fr v0) := by
  have key : ∀ n v, mu v < n → Jn v → OF p e below n1 z1 EN Q (Tf v) (fr v) := by
    intro n
    induction n with
    | zero => intro v hn; omega
    | succ n ih => intro v hn hv; exact k1 v hv (fun v' hv' hlt => ih v' (by omega) hv')
  exact key _ v0 (Nat.lt_succ_self _) hv0
theorem o_new {index n : Nat} {C : String} (W : OW p l e R s m args below meth c Z B ml own nm rt n0 z0 T h kk nn) (w : (Jvm.Cond.classLink own index C).before a0 Z = true) (wi : (Jvm.Cond.instantiable C n).before a0 Z = true) (wz : (Jvm.Cond.initialized C).before a0 Z = true) (hd : decode B pc = .ok (.new index, 3)) (hp : pc + 3 = pc')
    (hc : kk + 1 ≤ R.cells) (hl : nn + n ≤ R.slots) (hk' : kk + 1 = kk') (hn' : nn + n = nn')
    (k1 : ∀ T' h' a, OW p l e R s m args below meth c Z B ml own nm rt n0 z0 T' h' kk' nn' → Ext h h' → a = h.size → Exa Z h' a C → (∀ {O nm d : String} {ty : FieldType}, Laid Z a0 C O nm d → parseFieldDescriptor d = some ty → Fld Z h' a O nm d (defaultValue ty)) → OF p e below n1 z1 EN Q T' (mkF m pc' L (.ref a :: S))) : OF p e below n1 z1 EN Q T (mkF m pc L S) := by
  subst hp hk' hn'
  obtain ⟨cx, hz, hz', eT, locs, X, N⟩ := W
  obtain ⟨hx, hZ, hby, hml, hown, hnm, hr, hlk⟩ := cx
  obtain ⟨T', h', X', e', E, A, D, -, st⟩ := newO X hx hZ hown w wi wz eT (g := mkF m pc L S) rfl (hb hby hd) hc hl
  exact OF.step (fun t z => st t z) (k1 T' h' h.size ⟨⟨hx, hZ, hby, hml, hown, hnm, hr, hlk⟩, hz, Nat.le_trans hz' E.1, e', _, X', N⟩ E rfl A D)
theorem o_getF {index : Nat} {O f d : String} {a : Addr} {v : Value} (W : OW p l e R s m args below meth c Z B ml own nm rt n0 z0 T h kk nn) (w : (Jvm.Cond.fieldLink own index O f d).before a0 Z = true) (Fl : Fld Z h a O f d v) (hd : decode B pc = .ok (.getfield index, 3)) (hp : pc + 3 = pc')
    (k1 : ∀ T', OW p l e R s m args below meth c Z B ml own nm rt n0 z0 T' h kk nn → OF p e below n1 z1 EN Q T' (mkF m pc' L (v :: S))) : OF p e below n1 z1 EN Q T (mkF m pc L (.ref a :: S)) := by
  subst hp
  obtain ⟨cx, hz, hz', eT, locs, X, N⟩ := W
  obtain ⟨hx, hZ, hby, hml, hown, hnm, hr, hlk⟩ := cx
  obtain ⟨T', X', e', st⟩ := getF X hx hZ hown (host := "") (Or.inl w) Via.refl eT Fl (g := mkF m pc L (.ref a :: S)) rfl rfl (hb hby hd)
  exact OF.step (fun t z => st t z) (k1 T' ⟨⟨hx, hZ, hby, hml, hown, hnm, hr, hlk⟩, hz, hz', e', _, X', N⟩)
theorem o_putF {index kz : Nat} {O f d C : String} {a : Addr} {v v' old : Value} {ty : FieldType} (W : OW p l e R s m args below meth c Z B ml own nm rt n0 z0 T h kk nn) (w : (Jvm.Cond.fieldLink own index O f d).before a0 Z = true) (Fl : Fld Z h a O f d old) (E : Exa Z h a C) (Ly : (Jvm.Cond.lays C O f d).before a0 Z = true ∨ ((Jvm.Cond.laysFinal C O f d).before a0 Z = true ∧ own = O ∧ nm = "<init>")) (wi : (Jvm.Cond.instantiable C kz).before a0 Z = true)
    (hty : parseFieldDescriptor d = some ty) (hnw : narrow ty v = v') (hf : fits ty v' = true) (ha : n0 ≤ a) (hd : decode B pc = .ok (.putfield index, 3)) (hp : pc + 3 = pc')
    (k1 : ∀ T' h', OW p l e R s m args below meth c Z B ml own nm rt n0 z0 T' h' kk nn → Wr h h' a (Jvm.RoadKit.slotOf Z O f d) v' → OF p e below n1 z1 EN Q T' (mkF m pc' L S)) : OF p e below n1 z1 EN Q T (mkF m pc L (v :: .ref a :: S)) := by
  subst hp
  obtain ⟨cx, hz, hz', eT, locs, X, N⟩ := W
  obtain ⟨hx, hZ, hby, hml, hown, hnm, hr, hlk⟩ := cx
  obtain ⟨T', h', X', e', Wr', st⟩ := putFN X hx hZ hown w Via.refl eT Fl E (Ly.imp id (fun q => ⟨q.1, q.2.1, hnm.trans q.2.2⟩)) wi hty hnw hf (g := mkF m pc L (v :: .ref a :: S)) rfl rfl (hb hby hd)
  exact OF.step (fun t z => st t z) (k1 T' h' ⟨⟨hx, hZ, hby, hml, hown, hnm, hr, hlk⟩, hz, Nat.le_trans hz' (Nat.le_of_eq Wr'.size.symm), e', _, X', Fr.snoc X' N ha⟩ Wr')
theorem o_initO {index wt : Nat} {a : Addr} (W : OW p l e R s m args below meth c Z B ml own nm rt n0 z0 T h kk nn) (w1 : (Jvm.Cond.methodLink own index Lib.objectInit).before a0 Z = true) (w2 : (Jvm.Cond.instanceMethod Lib.objectInit).before a0 Z = true) (w3 : (Jvm.Cond.code Lib.objectInit ⟨#[0xb1]⟩ 1 none).before a0 Z = true)
    (hL : L.size = ml) (hwt : (S.map fun v => v.category).sum = wt) (hfr : 1 ≤ R.frames) (hlo : wt + 12 ≤ R.locals) (hd : decode B pc = .ok (.invokespecial index, 3)) (hp : pc + 3 = pc')
    (k1 : ∀ T', OW p l e R s m args below meth c Z B ml own nm rt n0 z0 T' h kk nn → OF p e below n1 z1 EN Q T' (mkF m pc' L S)) : OF p e below n1 z1 EN Q T (mkF m pc L (.ref a :: S)) := by
  subst hp
  obtain ⟨cx, hz, hz', eT, locs, X, N⟩ := W
  obtain ⟨hx, hZ, hby, hml, hown, hnm, hr, hlk⟩ := cx
  obtain ⟨T', X', e', st⟩ := initO X hx hZ hown w1 w2 w3 eT (g := mkF m pc L (.ref a :: S)) rfl (hL.trans hml.symm) rfl (hb hby hd) hfr (W := wt) (by show 2 * 0 + _ ≤ _; rw [hwt]; omega) hlo
  exact OF.step (fun t z => st t z) (k1 T' ⟨⟨hx, hZ, hby, hml, hown, hnm, hr, hlk⟩, hz, hz', e', _, X', N⟩)
theorem o_callC {index : Nat} {y : MethodName} {B' : ByteArray} {ml' wt : Nat} {rm : Room} {as : Array Value} {P' : Heap → Prop} {a : Addr} {argsL : List Value} {st : List Value} (W : OW p l e R s m args below meth c Z B ml own nm rt n0 z0 T h kk nn)
    (C : OCon l Z y B' ml' none [] rm as h n0 (QV P')) (hy1 : y.name = "<init>") (w1 : (Jvm.Cond.methodLink own index y).before a0 Z = true) (w2 : (Jvm.Cond.instanceMethod y).before a0 Z = true) (w3 : (Jvm.Cond.initialized y.cls).before a0 Z = true) (w4 : (Jvm.Cond.code y B' ml' none).before a0 Z = true)
    (hy : y.cls ≠ "java/lang/invoke/MethodHandle" ∧ y.cls ≠ "java/lang/invoke/VarHandle") (hlen : ∀ sig, parseMethodDescriptor y.desc = some sig → argsL.length = sig.parameters.length) (has : (.ref a :: argsL).toArray = as) (hst : st = argsL.reverse ++ .ref a :: S) (hL : L.size = ml)
    (hwt : (S.map fun v => v.category).sum = wt) (hfr : rm.frames + 1 ≤ R.frames) (hlo : wt + (ml' + 11) + rm.locals ≤ R.locals) (hcl : kk + rm.cells ≤ R.cells) (hsl : nn + rm.slots ≤ R.slots) (hk' : kk + rm.cells = kk') (hn' : nn + rm.slots = nn')
    (hd : decode B pc = .ok (.invokespecial index, 3)) (hp : pc + 3 = pc')
    (k1 : ∀ T' h', OW p l e R s m args below meth c Z B ml own nm rt n0 z0 T' h' kk' nn' → P' h' → h.size ≤ h'.size → OF p e below n1 z1 EN Q T' (mkF m pc' L S)) : OF p e below n1 z1 EN Q T (mkF m pc L st) := by
  subst hp has hk' hn' hst
  obtain ⟨cx, hz, hz', eT, locs, X, N⟩ := W
  obtain ⟨hx, hZ, hby, hml, hown, hnm, hr, hlk⟩ := cx
  obtain ⟨v, _, ⟨T', L2, k2, n2⟩, -, X2, ⟨Lc, hQ, l2, y2, z2⟩, st2⟩ := X.specialBack hx (y := y) hy1 hown (mvT hZ w1) (mvT hZ w2) (mvT hZ w4) hy (backOf (W := wt) (Q := OQ (QV P') h.size n0) C hZ w4 w3 hfr hlo) (g := mkF m pc L (argsL.reverse ++ .ref a :: S)) rfl (hL.trans hml.symm) (Steps.refl _) (a := a) (argsL := argsL) (rest := S) hlen rfl
    (by show 2 * 0 + _ ≤ _; rw [hwt]; omega) (hb hby hd) (fun _ _ => ⟨rfl, eT, hcl, hsl⟩)
  dsimp only [Pt.U, Pt.locs, Pt.cells, Pt.slots] at X2 l2 y2 z2 st2 hQ
  subst l2 y2 z2
  obtain ⟨⟨rfl, q1⟩, q2, q3⟩ := hQ
  exact OF.step (fun t z => st2.trans z) (k1 T' T'.heap ⟨⟨hx, hZ, hby, hml, hown, hnm, hr, hlk⟩, hz, Nat.le_trans hz' q2, rfl, _, X2, Fr.app N q3⟩ q1 q2)
theorem o_callV {index : Nat} {y z : MethodName} {K : String} {B' : ByteArray} {ml' wt : Nat} {rt' : Option FieldType} {rm : Room} {as : Array Value} {Q' : Option Value → Heap → Prop} {a : Addr} {argsL : List Value} {st : List Value} (W : OW p l e R s m args below meth c Z B ml own nm rt n0 z0 T h kk nn)
    (E : Exa Z h a K) (C : OCon l Z z B' ml' rt' [] rm as h n0 Q') (w1 : (Jvm.Cond.methodLink own index y).before a0 Z = true) (w2 : (Jvm.Cond.declares y).before a0 Z = true) (w5 : NotFace s y) (w6 : (Jvm.Cond.selects K y z).before a0 Z = true) (w7 : (Jvm.Cond.instanceMethod z).before a0 Z = true) (w3 : (Jvm.Cond.initialized z.cls).before a0 Z = true) (w4 : (Jvm.Cond.code z B' ml' rt').before a0 Z = true)
    (hy : y.cls ≠ "java/lang/invoke/MethodHandle" ∧ y.cls ≠ "java/lang/invoke/VarHandle") (hlen : ∀ sig, parseMethodDescriptor y.desc = some sig → argsL.length = sig.parameters.length) (has : (.ref a :: argsL).toArray = as) (hst : st = argsL.reverse ++ .ref a :: S) (hL : L.size = ml)
    (hwt : (S.map fun v => v.category).sum = wt) (hfr : rm.frames + 1 ≤ R.frames) (hlo : wt + (ml' + 11) + rm.locals ≤ R.locals) (hcl : kk + rm.cells ≤ R.cells) (hsl : nn + rm.slots ≤ R.slots) (hk' : kk + rm.cells = kk') (hn' : nn + rm.slots = nn')
    (hd : decode B pc = .ok (.invokevirtual index, 3)) (hp : pc + 3 = pc')
    (k1 : ∀ v T' h', OW p l e R s m args below meth c Z B ml own nm rt n0 z0 T' h' kk' nn' → Q' v h' → h.size ≤ h'.size → OF p e below n1 z1 EN Q T' (mkF m pc' L (v.toList ++ S))) : OF p e below n1 z1 EN Q T (mkF m pc L st) := by
  subst hp has hk' hn' hst
  obtain ⟨cx, hz, hz', eT, locs, X, N⟩ := W
  obtain ⟨hx, hZ, hby, hml, hown, hnm, hr, hlk⟩ := cx
  obtain ⟨cq, kq, qa, qb, qc⟩ := isOf hZ eT E
  obtain ⟨v, _, ⟨T', L2, k2, n2⟩, -, X2, ⟨Lc, hQ, l2, y2, z2⟩, st2⟩ := X.virtualBack hx (y := y) (z := z) hown (mvT hZ w1) (mvT hZ w2) w5 (mvT hZ w6) (mvT hZ w7) hy (backOf (W := wt) (Q := OQ Q' h.size n0) C hZ w4 w3 hfr hlo) qa qc (g := mkF m pc L (argsL.reverse ++ .ref a :: S)) rfl (hL.trans hml.symm) (Steps.refl _) (argsL := argsL) (rest := S) hlen rfl
    (by show 2 * 0 + _ ≤ _; rw [hwt]; omega) (hb hby hd) (fun _ _ => ⟨rfl, eT, hcl, hsl⟩)
  dsimp only [Pt.U, Pt.locs, Pt.cells, Pt.slots] at X2 l2 y2 z2 st2 hQ
  subst l2 y2 z2
  obtain ⟨q1, q2, q3⟩ := hQ
  exact OF.step (fun t z => st2.trans z) (k1 v T' T'.heap ⟨⟨hx, hZ, hby, hml, hown, hnm, hr, hlk⟩, hz, Nat.le_trans hz' q2, rfl, _, X2, Fr.app N q3⟩ q1 q2)
end OwnKit
theorem ow {a0 : Array Value} {Z : State} (hw : ∀ d ∈ tables_1, d.before a0 Z = true) (k : Nat) {d : Jvm.Cond} (h : tables_1[k]? = some d) : d.before a0 Z = true := hw _ (List.mem_of_getElem? h)
theorem own_rng (x : Int32) : -2147483648 ≤ x.toInt ∧ x.toInt < 2147483648 := ⟨x.le_toInt, x.toInt_lt⟩
theorem own_lrng (x : Int64) : -9223372036854775808 ≤ x.toInt ∧ x.toInt < 9223372036854775808 := ⟨x.le_toInt, x.toInt_lt⟩
theorem own_rem (x y : Int32) : (x - (x / y) * y).toInt = x.toInt.tmod y.toInt := by
  have a := (x % y).toInt_lt; have b := (x % y).le_toInt
  rw [Int32.toInt_mod] at a b
  rw [Int32.toInt_sub, Int32.toInt_mul, Int32.toInt_div, Int.bmod_mul_bmod, Int.sub_bmod_bmod, Int.mul_comm, ← Int.tmod_def]
  exact Jvm.Kit.bmod32 b a
theorem own_remp {x y : Int32} (hx : 0 ≤ x.toInt) : (x - (x / y) * y).toInt = x.toInt % y.toInt := by rw [own_rem, Int.tmod_eq_emod_of_nonneg hx]
theorem own_char (x : Int32) : 0 ≤ (x.toUInt32.toUInt16.toUInt32.toInt32).toInt ∧ (x.toUInt32.toUInt16.toUInt32.toInt32).toInt ≤ 65535 := by
  have q := fits_nar_char x
  simp only [fits, nar, Bool.and_eq_true, decide_eq_true_eq, Int32.le_iff_toInt_le] at q
  exact q
theorem own_ix {x y : Int32} {n : Nat} (hx : 0 ≤ x.toInt) (hy : y.toInt = n) (hn : 0 < n) : ∃ i : Nat, (x - x / y * y).toInt = i ∧ i < n := by
  have h := own_remp (y := y) hx
  rw [hy] at h
  have h1 := Int.emod_nonneg x.toInt (b := (n : Int)) (by omega)
  have h2 := Int.emod_lt_of_pos x.toInt (b := (n : Int)) (by omega)
  exact ⟨(x.toInt % n).toNat, by omega, by omega⟩
theorem own_nz {v : Int32} {n : Nat} (h : v.toInt = n) (hn : 0 < n) : v ≠ 0 := fun e => by
  rw [e] at h; have c0 : (0 : Int32).toInt = 0 := rfl; omega
theorem own_and31 (x : Int32) : 0 ≤ (x &&& 2147483647).toInt := by
  have h1 : (x &&& 2147483647).toInt = x.toInt % 2147483648 := Jvm.Kit.i32_mask x 2147483647 (k := 31) (by decide) (by decide)
  omega
theorem own_ushr (x : Int32) {n : UInt32} {k : Nat} (hn : n.toNat = k) (h0 : 0 < k) (hk : k < 32) : ((x.toUInt32 >>> n).toInt32).toInt = ((x.toUInt32.toNat / 2 ^ k : Nat) : Int) := by
  have e : ((x.toUInt32 >>> n).toInt32).toInt = ((x.toUInt32 >>> n).toBitVec).toInt := rfl
  have q : (x.toUInt32 >>> n).toBitVec.toNat = x.toUInt32.toNat / 2 ^ k := by
    show (x.toUInt32 >>> n).toNat = _
    rw [UInt32.toNat_shiftRight, hn, Nat.mod_eq_of_lt hk, Nat.shiftRight_eq_div_pow]
  have lt := x.toUInt32.toNat_lt
  have p1 : 2 ^ 1 ≤ 2 ^ k := Nat.pow_le_pow_right (by decide) h0
  have p2 : x.toUInt32.toNat / 2 ^ k ≤ x.toUInt32.toNat / 2 ^ 1 := Nat.div_le_div_left p1 (by decide)
  rw [e, BitVec.toInt_eq_toNat_cond, q, if_pos (by omega)]
theorem own_ushr1 (x : Int32) : 0 ≤ ((x.toUInt32 >>> ((1 : Int32) &&& 31).toUInt32).toInt32).toInt := by
  rw [own_ushr x (k := 1) (by decide) (by decide) (by decide)]; omega
theorem own_nn {v : Int32} (h : 0 ≤ v.toInt) : v.toBitVec.toNat = v.toInt.toNat := by
  have q : v.toInt = v.toBitVec.toInt := rfl
  rw [BitVec.toInt_eq_toNat_cond] at q
  have := v.toBitVec.isLt
  split at q <;> omega
theorem own_lnn {v : Int64} (h : 0 ≤ v.toInt) : v.toBitVec.toNat = v.toInt.toNat := by
  have q : v.toInt = v.toBitVec.toInt := rfl
  rw [BitVec.toInt_eq_toNat_cond] at q
  have := v.toBitVec.isLt
  split at q <;> omega
theorem own_fk {j k : Int32} {i c : Nat} (h : j.toInt = i) (hi : i < 1000) (hk : k.toInt = c) (hc : c < 1000) : (j + k).toInt = ((i + c : Nat) : Int) := by
  rw [Jvm.Kit.i32_add (by omega) (by omega)]; omega
def own_gv (f : Nat → Int32) : Nat → Int64
  | 0 => 0
  | t + 1 => (own_gv f t <<< ((8 : Int32) &&& 0x3f).toInt64) ||| ((f t &&& 255).toInt64)
def own_c (v : Int64) : Nat → Int32
  | 0 => ((((v.toUInt64 >>> ((56 : Int32) &&& 0x3f).toInt64.toUInt64).toInt64).toInt32).toInt8.toInt32).toInt8.toInt32
  | 1 => ((((v.toUInt64 >>> ((48 : Int32) &&& 0x3f).toInt64.toUInt64).toInt64).toInt32).toInt8.toInt32).toInt8.toInt32
  | 2 => ((((v.toUInt64 >>> ((40 : Int32) &&& 0x3f).toInt64.toUInt64).toInt64).toInt32).toInt8.toInt32).toInt8.toInt32
  | 3 => ((((v.toUInt64 >>> ((32 : Int32) &&& 0x3f).toInt64.toUInt64).toInt64).toInt32).toInt8.toInt32).toInt8.toInt32
  | 4 => ((((v.toUInt64 >>> ((24 : Int32) &&& 0x3f).toInt64.toUInt64).toInt64).toInt32).toInt8.toInt32).toInt8.toInt32
  | 5 => ((((v.toUInt64 >>> ((16 : Int32) &&& 0x3f).toInt64.toUInt64).toInt64).toInt32).toInt8.toInt32).toInt8.toInt32
  | 6 => ((((v.toUInt64 >>> ((8 : Int32) &&& 0x3f).toInt64.toUInt64).toInt64).toInt32).toInt8.toInt32).toInt8.toInt32
  | _ => ((v.toInt32).toInt8.toInt32).toInt8.toInt32
theorem own_set8 (L : List Int32) (i : Nat) (hL : L.length = 12) (hi : i < 5) (c0 c1 c2 c3 c4 c5 c6 c7 : Int32) (t : Nat) (ht : t < 8) :
    ((((((((L.set i c0).set (i + 1) c1).set (i + 2) c2).set (i + 3) c3).set (i + 4) c4).set (i + 5) c5).set (i + 6) c6).set (i + 7) c7)[i + t]? = some ([c0, c1, c2, c3, c4, c5, c6, c7].getD t c7) := by
  have h8 : t = 0 ∨ t = 1 ∨ t = 2 ∨ t = 3 ∨ t = 4 ∨ t = 5 ∨ t = 6 ∨ t = 7 := by omega
  rcases h8 with rfl | rfl | rfl | rfl | rfl | rfl | rfl | rfl <;> simp only [List.getElem?_set, List.length_set, hL] <;> simp <;> omega
theorem own_sets (v : Int64) (L : List Int32) (i : Nat) (hL : L.length = 12) (hi : i < 5) : ∀ t, t < 8 →
    ((((((((L.set i (((((v.toUInt64 >>> ((56 : Int32) &&& 0x3f).toInt64.toUInt64).toInt64).toInt32).toInt8.toInt32).toInt8.toInt32)).set (i + 1) (((((v.toUInt64 >>> ((48 : Int32) &&& 0x3f).toInt64.toUInt64).toInt64).toInt32).toInt8.toInt32).toInt8.toInt32)).set (i + 2) (((((v.toUInt64 >>> ((40 : Int32) &&& 0x3f).toInt64.toUInt64).toInt64).toInt32).toInt8.toInt32).toInt8.toInt32)).set (i + 3) (((((v.toUInt64 >>> ((32 : Int32) &&& 0x3f).toInt64.toUInt64).toInt64).toInt32).toInt8.toInt32).toInt8.toInt32)).set (i + 4) (((((v.toUInt64 >>> ((24 : Int32) &&& 0x3f).toInt64.toUInt64).toInt64).toInt32).toInt8.toInt32).toInt8.toInt32)).set (i + 5) (((((v.toUInt64 >>> ((16 : Int32) &&& 0x3f).toInt64.toUInt64).toInt64).toInt32).toInt8.toInt32).toInt8.toInt32)).set (i + 6) (((((v.toUInt64 >>> ((8 : Int32) &&& 0x3f).toInt64.toUInt64).toInt64).toInt32).toInt8.toInt32).toInt8.toInt32)).set (i + 7) (((v.toInt32).toInt8.toInt32).toInt8.toInt32))[i + t]? = some (own_c v t) := by
  intro t ht
  rw [own_set8 L i hL hi _ _ _ _ _ _ _ _ t ht]
  have h8 : t = 0 ∨ t = 1 ∨ t = 2 ∨ t = 3 ∨ t = 4 ∨ t = 5 ∨ t = 6 ∨ t = 7 := by omega
  rcases h8 with rfl | rfl | rfl | rfl | rfl | rfl | rfl | rfl <;> rfl
theorem own_bmod8 (a : Int) : (a.bmod (2 ^ 8)) % 256 = a % 256 := by rw [Int.bmod_def]; split <;> omega
theorem own_bmod32 (a : Int) : (a.bmod (2 ^ 32)) % 256 = a % 256 := by rw [Int.bmod_def]; split <;> omega
theorem own_bmod64 (a : Int) : (a.bmod (2 ^ 64)) % 256 = a % 256 := by rw [Int.bmod_def]; split <;> omega
theorem own_b (u : Int64) : ((((u.toInt32).toInt8.toInt32).toInt8.toInt32) &&& 255).toInt = u.toInt % 256 := by
  have e : ((((u.toInt32).toInt8.toInt32).toInt8.toInt32) &&& 255).toInt = (((u.toInt32).toInt8.toInt32).toInt8.toInt32).toInt % 2 ^ 8 := Jvm.Kit.i32_mask _ 255 (k := 8) (by decide) (by decide)
  rw [e, Int8.toInt_toInt32, Int32.toInt_toInt8, Int8.toInt_toInt32, Int32.toInt_toInt8, Int64.toInt_toInt32]
  have p8 : ((2 : Int) ^ 8) = 256 := rfl
  rw [p8, own_bmod8, own_bmod8, own_bmod32]
theorem own_u (w : UInt64) : w.toInt64.toInt % 256 = ((w.toNat % 256 : Nat) : Int) := by
  have e : w.toInt64.toInt = w.toBitVec.toInt := rfl
  rw [e, BitVec.toInt_eq_toNat_bmod, own_bmod64]
  have e2 : w.toBitVec.toNat = w.toNat := rfl
  rw [e2]; omega
theorem own_shn (v : Int64) {n : UInt64} {k : Nat} (hn : n.toNat = k) (hk : k < 64) : (v.toUInt64 >>> n).toNat = v.toUInt64.toNat / 2 ^ k := by
  rw [UInt64.toNat_shiftRight, hn, Nat.mod_eq_of_lt hk, Nat.shiftRight_eq_div_pow]
theorem own_step (a z : Int64) (ha : a.toBitVec.toNat < 2 ^ 56) (h0 : 0 ≤ z.toInt) (h1 : z.toInt < 256) : ((a <<< ((8 : Int32) &&& 0x3f).toInt64) ||| z).toBitVec.toNat = a.toBitVec.toNat * 256 + z.toInt.toNat := by
  have e : ((a <<< ((8 : Int32) &&& 0x3f).toInt64) ||| z).toBitVec = (a.toBitVec <<< (((8 : Int32) &&& 0x3f).toInt64.toBitVec.smod 64)) ||| z.toBitVec := rfl
  have e8 : (((8 : Int32) &&& 0x3f).toInt64.toBitVec.smod 64) = 8#64 := by decide
  have ez : z.toBitVec.toNat = z.toInt.toNat := own_lnn h0
  have es : (a.toBitVec <<< 8#64).toNat = a.toBitVec.toNat <<< 8 := by
    rw [BitVec.shiftLeft_eq', BitVec.toNat_shiftLeft]
    have : (8#64).toNat = 8 := rfl
    rw [this, Nat.shiftLeft_eq]
    exact Nat.mod_eq_of_lt (by omega)
  rw [e, e8, BitVec.toNat_or, es, ez, ← Nat.shiftLeft_add_eq_or_of_lt (by omega), Nat.shiftLeft_eq]
theorem own_cz (v : Int64) (t : Nat) (ht : t < 8) : 0 ≤ ((own_c v t &&& 255).toInt64).toInt ∧ ((own_c v t &&& 255).toInt64).toInt < 256 ∧ ((own_c v t &&& 255).toInt64).toInt.toNat = v.toUInt64.toNat / 2 ^ (56 - 8 * t) % 256 := by
  have key : ∀ (u : Int64) (N : Nat), u.toInt % 256 = ((N % 256 : Nat) : Int) → 0 ≤ (((((u.toInt32).toInt8.toInt32).toInt8.toInt32) &&& 255).toInt64).toInt ∧ (((((u.toInt32).toInt8.toInt32).toInt8.toInt32) &&& 255).toInt64).toInt < 256 ∧ (((((u.toInt32).toInt8.toInt32).toInt8.toInt32) &&& 255).toInt64).toInt.toNat = N % 256 := by
    intro u N h
    rw [Jvm.Kit.i64_of_i32, own_b, h]; omega
  have h8 : t = 0 ∨ t = 1 ∨ t = 2 ∨ t = 3 ∨ t = 4 ∨ t = 5 ∨ t = 6 ∨ t = 7 := by omega
  rcases h8 with rfl | rfl | rfl | rfl | rfl | rfl | rfl | rfl
  · exact key _ _ (by rw [own_u, own_shn v (k := 56) (by decide) (by decide)])
  · exact key _ _ (by rw [own_u, own_shn v (k := 48) (by decide) (by decide)])
  · exact key _ _ (by rw [own_u, own_shn v (k := 40) (by decide) (by decide)])
  · exact key _ _ (by rw [own_u, own_shn v (k := 32) (by decide) (by decide)])
  · exact key _ _ (by rw [own_u, own_shn v (k := 24) (by decide) (by decide)])
  · exact key _ _ (by rw [own_u, own_shn v (k := 16) (by decide) (by decide)])
  · exact key _ _ (by rw [own_u, own_shn v (k := 8) (by decide) (by decide)])
  · refine key v (v.toUInt64.toNat / 2 ^ (56 - 8 * 7)) ?_
    have e : v = v.toUInt64.toInt64 := rfl
    have q := own_u v.toUInt64
    rw [← e] at q
    rw [q]; simp
theorem own_gvN (v : Int64) : ∀ t, t ≤ 8 → (own_gv (own_c v) t).toBitVec.toNat = v.toUInt64.toNat / 2 ^ (64 - 8 * t)
  | 0, _ => by
    have := v.toUInt64.toNat_lt
    show (0 : Int64).toBitVec.toNat = _
    have e : (0 : Int64).toBitVec.toNat = 0 := rfl
    rw [e]; omega
  | t + 1, h => by
    have ih := own_gvN v t (by omega)
    obtain ⟨c1, c2, c3⟩ := own_cz v t (by omega)
    have lt := v.toUInt64.toNat_lt
    show ((own_gv (own_c v) t <<< ((8 : Int32) &&& 0x3f).toInt64) ||| ((own_c v t &&& 255).toInt64)).toBitVec.toNat = _
    have h8 : t = 0 ∨ t = 1 ∨ t = 2 ∨ t = 3 ∨ t = 4 ∨ t = 5 ∨ t = 6 ∨ t = 7 := by omega
    rw [own_step _ _ (by rw [ih]; rcases h8 with rfl | rfl | rfl | rfl | rfl | rfl | rfl | rfl <;> omega) c1 c2, ih, c3]
    rcases h8 with rfl | rfl | rfl | rfl | rfl | rfl | rfl | rfl <;> omega
theorem own_fin (v : Int64) (c : Int32) (n : Nat) (hc : c.toInt = n) (h0 : 0 < n) (h1 : n ≤ 8) : own_gv (own_c v) n = (v.toUInt64 >>> (((64 : Int32) - 8 * c) &&& 0x3f).toInt64.toUInt64).toInt64 := by
  have ec : c = Int32.ofNat n := by
    apply Int32.toInt_inj.mp
    rw [Int32.toInt_ofNat_of_lt (by omega)]; omega
  apply Int64.toBitVec_inj.mp
  apply BitVec.eq_of_toNat_eq
  rw [own_gvN v n h1]
  show _ = (v.toUInt64 >>> (((64 : Int32) - 8 * c) &&& 0x3f).toInt64.toUInt64).toNat
  have hk : ((((64 : Int32) - 8 * c) &&& 0x3f).toInt64.toUInt64).toNat = (64 - 8 * n) % 64 := by
    subst ec
    have h8 : n = 1 ∨ n = 2 ∨ n = 3 ∨ n = 4 ∨ n = 5 ∨ n = 6 ∨ n = 7 ∨ n = 8 := by omega
    rcases h8 with rfl | rfl | rfl | rfl | rfl | rfl | rfl | rfl <;> decide
  rw [own_shn v hk (by omega), Nat.mod_eq_of_lt (by omega)]
theorem own_pn0 : plainName "com/example/plainwire/plainwire/wire/BigEndian" = true := by first | (simp [plainName, overriddenIn]; done) | decide +kernel
theorem own_ef1 (m : MethodId) (z0 : Addr) (z1 : Int32) (z2 : Int32) : entryFrame m #[(.ref z0), (.int z1), (.int z2)] 6 = mkF m 0 #[.val (.ref z0), .val (.int z1), .val (.int z2), .unset, .unset, .unset] [] := by first | (simp [entryFrame, mkF, argsToLocals, Value.category]; done) | rfl
theorem own_d1_0 : decode prog_32_method_2_code 0 = .ok (.lconst 0, 1) := by decide +kernel
theorem own_d1_1 : decode prog_32_method_2_code 1 = .ok (.lstore_n 3, 1) := by decide +kernel
theorem own_d1_2 : decode prog_32_method_2_code 2 = .ok (.iload_n 1, 1) := by decide +kernel
theorem own_d1_3 : decode prog_32_method_2_code 3 = .ok (.istore 5, 2) := by decide +kernel
theorem own_d1_5 : decode prog_32_method_2_code 5 = .ok (.iload 5, 2) := by decide +kernel
theorem own_d1_7 : decode prog_32_method_2_code 7 = .ok (.iload_n 1, 1) := by decide +kernel
theorem own_d1_8 : decode prog_32_method_2_code 8 = .ok (.iload_n 2, 1) := by decide +kernel
theorem own_d1_9 : decode prog_32_method_2_code 9 = .ok (.iadd, 1) := by decide +kernel
theorem own_d1_10 : decode prog_32_method_2_code 10 = .ok (.if_icmp .ge 24, 3) := by decide +kernel
theorem own_d1_34 : decode prog_32_method_2_code 34 = .ok (.lload_n 3, 1) := by decide +kernel
theorem own_d1_35 : decode prog_32_method_2_code 35 = .ok (.lreturn, 1) := by decide +kernel
theorem own_d1_13 : decode prog_32_method_2_code 13 = .ok (.lload_n 3, 1) := by decide +kernel
theorem own_d1_14 : decode prog_32_method_2_code 14 = .ok (.bipush 8, 2) := by decide +kernel
theorem own_d1_16 : decode prog_32_method_2_code 16 = .ok (.lshl, 1) := by decide +kernel
theorem own_d1_17 : decode prog_32_method_2_code 17 = .ok (.aload_n 0, 1) := by decide +kernel
theorem own_d1_18 : decode prog_32_method_2_code 18 = .ok (.iload 5, 2) := by decide +kernel
theorem own_d1_20 : decode prog_32_method_2_code 20 = .ok (.baload, 1) := by decide +kernel
theorem own_d1_21 : decode prog_32_method_2_code 21 = .ok (.sipush 255, 3) := by decide +kernel
theorem own_d1_24 : decode prog_32_method_2_code 24 = .ok (.iand, 1) := by decide +kernel
theorem own_d1_25 : decode prog_32_method_2_code 25 = .ok (.i2l, 1) := by decide +kernel
theorem own_d1_26 : decode prog_32_method_2_code 26 = .ok (.lor, 1) := by decide +kernel
theorem own_d1_27 : decode prog_32_method_2_code 27 = .ok (.lstore_n 3, 1) := by decide +kernel
theorem own_d1_28 : decode prog_32_method_2_code 28 = .ok (.iinc 5 1, 3) := by decide +kernel
theorem own_d1_31 : decode prog_32_method_2_code 31 = .ok (.goto (-26), 3) := by decide +kernel
set_option maxRecDepth 65536 in
set_option maxHeartbeats 4000000 in
theorem rm1 (l : Launch) (Z : State) (a0 : Array Value) (hw : ∀ d ∈ tables_1, d.before a0 Z = true) (b0 : Addr) (y1 : Int32) (y2 : Int32) (h0 : Heap) (n0 : Nat) (Z0 : n0 ≤ h0.size) (xs : List Int32) (i n : Nat) (f : Nat → Int32) (A0 : OA Z h0 b0 .byte xs) (hi : y1.toInt = i) (hn : y2.toInt = n) (hin : i + n ≤ xs.length) (hil : i + n < 100) (hf : ∀ t, t < n → xs[i + t]? = some (f t)) :
    OCon l Z (⟨"com/example/plainwire/plainwire/wire/BigEndian", "get", "([BII)J"⟩ : MethodName) prog_32_method_2_code 6 (some .long) [] ({ frames := 0, cells := 0, slots := 0, locals := 0 } : Room) #[(.ref b0), (.int y1), (.int y2)] h0 n0 (QJ fun r h' => r = own_gv f n ∧ h0 = h') := by
  refine OCon.mk (plainFor_of_name own_pn0) Z0 ?_
  intro p e s m below meth cd s₁ W0
  refine OF.cast (own_ef1 m b0 y1 y2) ?_
  refine o_lconst W0 (v := (0 : Int64)) own_d1_0 rfl (pc' := 1) rfl ?_
  refine o_lstoreN W0 (L' := #[.val (.ref b0), .val (.int y1), .val (.int y2), .val (.long (0 : Int64)), .second, .unset]) own_d1_1 rfl (pc' := 2) rfl ?_
  refine o_iloadN W0 own_d1_2 (v := y1) rfl (pc' := 3) rfl ?_
  refine o_istore W0 (L' := #[.val (.ref b0), .val (.int y1), .val (.int y2), .val (.long (0 : Int64)), .second, .val (.int y1)]) own_d1_3 rfl (pc' := 5) rfl ?_
  refine OF.loop (α := Nat × Int32) (fun v => n - v.1) (fun v => v.1 ≤ n ∧ v.2.toInt = ((i + v.1 : Nat) : Int)) (fun _ => s₁) (fun v => mkF m 5 #[.val (.ref b0), .val (.int y1), .val (.int y2), .val (.long (own_gv f v.1)), .second, .val (.int v.2)] []) ?_ (0, y1) ?_
  · intro ⟨t, j⟩ hv ih
    obtain ⟨hv1, hv2⟩ := hv
    have hv1 : t ≤ n := hv1
    have hv2 : j.toInt = ((i + t : Nat) : Int) := hv2
    show OF _ _ _ _ _ _ _ s₁ (mkF m 5 #[.val (.ref b0), .val (.int y1), .val (.int y2), .val (.long (own_gv f t)), .second, .val (.int j)] [])
    refine o_iload W0 own_d1_5 (v := j) rfl (pc' := 7) rfl ?_
    refine o_iloadN W0 own_d1_7 (v := y1) rfl (pc' := 8) rfl ?_
    refine o_iloadN W0 own_d1_8 (v := y2) rfl (pc' := 9) rfl ?_
    refine o_iadd W0 own_d1_9 (pc' := 10) rfl ?_
    have hadd : (y1 + y2).toInt = ((i + n : Nat) : Int) := by
      rw [Jvm.Kit.i32_add (by omega) (by omega)]; omega
    refine o_icmp_ge W0 own_d1_10 (by decide) (pq := 34) (by decide) (pc' := 13) rfl (fun hc10 => ?_) (fun hc10 => ?_)
    · refine o_lloadN W0 own_d1_34 (v := (own_gv f t)) rfl (pc' := 35) rfl ?_
      refine o_retJ W0 rfl own_d1_35 (by decide) (by decide) ?_
      obtain rfl : t = n := by omega
      exact ⟨_, rfl, rfl, rfl⟩
    · refine o_lloadN W0 own_d1_13 (v := (own_gv f t)) rfl (pc' := 14) rfl ?_
      refine o_bipush W0 (v := (8 : Int32)) own_d1_14 rfl (pc' := 16) rfl ?_
      refine o_lshl W0 own_d1_16 (pc' := 17) rfl ?_
      refine o_aloadN W0 own_d1_17 (v := (.ref b0)) rfl rfl (pc' := 18) rfl ?_
      refine o_iload W0 own_d1_18 (v := j) rfl (pc' := 20) rfl ?_
      refine o_baload W0 A0 own_d1_20 (pc' := 21) rfl (i := (i + t)) (v := (f t)) hv2 (hf t (by omega)) ?_
      refine o_sipush W0 (v := (255 : Int32)) own_d1_21 rfl (pc' := 24) rfl ?_
      refine o_iand W0 own_d1_24 (pc' := 25) rfl ?_
      refine o_i2l W0 own_d1_25 (pc' := 26) rfl ?_
      refine o_lor W0 own_d1_26 (pc' := 27) rfl ?_
      refine o_lstoreN W0 (L' := #[.val (.ref b0), .val (.int y1), .val (.int y2), .val (.long (((own_gv f t) <<< ((8 : Int32) &&& 0x3f).toInt64) ||| (((f t) &&& (255 : Int32)).toInt64))), .second, .val (.int j)]) own_d1_27 rfl (pc' := 28) rfl ?_
      refine o_iinc W0 (x := j) (L' := #[.val (.ref b0), .val (.int y1), .val (.int y2), .val (.long (((own_gv f t) <<< ((8 : Int32) &&& 0x3f).toInt64) ||| (((f t) &&& (255 : Int32)).toInt64))), .second, .val (.int (j + (1 : Int32)))]) own_d1_28 rfl rfl (pc' := 31) rfl ?_
      refine o_goto W0 own_d1_31 (by decide) (pq := 5) (by decide) ?_
      have hj1 : (j + 1).toInt = (((i + (t + 1)) : Nat) : Int) := by
        have c1 : (1 : Int32).toInt = 1 := rfl
        rw [Jvm.Kit.i32_add (by omega) (by omega)]; omega
      exact ih (t + 1, j + 1) ⟨(show t + 1 ≤ n by omega), hj1⟩ (show n - (t + 1) < n - t by omega)
  · exact ⟨Nat.zero_le _, (show y1.toInt = ((i + 0 : Nat) : Int) by omega)⟩
theorem own_pn1 : plainName "com/example/plainwire/plainwire/wire/BigEndianGetPinLaw" = true := by first | (simp [plainName, overriddenIn]; done) | decide +kernel
theorem own_ef0 (m : MethodId) (z0 : Int64) (z1 : Int64) (z2 : Int32) (z3 : Int32) (z4 : Int32) : entryFrame m #[(.long z0), (.long z1), (.int z2), (.int z3), (.int z4)] maxLocals = mkF m 0 #[.val (.long z0), .second, .val (.long z1), .second, .val (.int z2), .val (.int z3), .val (.int z4), .unset, .unset, .unset, .unset, .unset] [] := by first | (simp [entryFrame, mkF, argsToLocals, Value.category, maxLocals]; done) | rfl
theorem own_pd0 : parseMethodDescriptor "([BII)J" = some ⟨[(.array .byte), .int, .int], some .long⟩ := by decide +kernel
set_option maxRecDepth 65536 in
set_option maxHeartbeats 4000000 in
theorem own_law (l : Launch) (Z : State) (a0 : Array Value) (hw : ∀ d ∈ tables_1, d.before a0 Z = true) (x0 : Int64) (x1 : Int64) (x2 : Int32) (x3 : Int32) (x4 : Int32) (h0 : Heap) (n0 : Nat) (Z0 : n0 ≤ h0.size) :
    OCon l Z x code maxLocals ret tables_1 room_1 #[(.long x0), (.long x1), (.int x2), (.int x3), (.int x4)] h0 n0 (fun v _ => v = some (.int 1)) := by
  refine OCon.mk (plainFor_of_name own_pn1) Z0 ?_
  intro p e s m below meth cd s₁ W0
  refine OF.cast (own_ef0 m x0 x1 x2 x3 x4) ?_
  have c_0___Int64_ : (0 : Int64).toInt = 0 := rfl
  refine o_bipush W0 (v := (12 : Int32)) at_0 rfl (pc' := 2) rfl ?_
  refine o_newarray W0 (ty := .byte) (len := 12) (cap := 12) (ow hw 0 rfl) rfl rfl rfl at_2 (pc' := 4) rfl rfl (by decide) (by decide) (by decide) (by decide) (kk' := 1) rfl (nn' := 12) rfl ?_
  intro T2 h2 a1 W2 E2 g_a1 A_a1
  have b_a1 : n0 ≤ a1 := by rw [g_a1]; exact W0.le
  have A_a1 : OA Z h2 a1 .byte [0, 0, 0, 0, 0, 0, 0, 0, 0, 0, 0, 0] := A_a1
  refine o_astore W2 (L' := #[.val (.long x0), .second, .val (.long x1), .second, .val (.int x2), .val (.int x3), .val (.int x4), .val (.ref a1), .unset, .unset, .unset, .unset]) at_4 rfl rfl (pc' := 6) rfl ?_
  refine o_aload W2 at_6 (v := (.ref a1)) rfl rfl (pc' := 8) rfl ?_
  refine o_iconst W2 (v := (0 : Int32)) at_8 rfl (pc' := 9) rfl ?_
  refine o_lloadN W2 at_9 (v := x1) rfl (pc' := 10) rfl ?_
  refine o_bipush W2 (v := (56 : Int32)) at_10 rfl (pc' := 12) rfl ?_
  refine o_lushr W2 at_12 (pc' := 13) rfl ?_
  refine o_l2i W2 at_13 (pc' := 14) rfl ?_
  refine o_i2b W2 at_14 (pc' := 15) rfl ?_
  refine o_bastore W2 A_a1 b_a1 at_15 (pc' := 16) rfl (i := 0) rfl (Nat.le_of_ble_eq_true rfl) ?_
  intro T3 h3 W3 K3 A_a1_3
  have A_a1_3 : OA Z h3 a1 .byte [(((((x1.toUInt64 >>> ((56 : Int32) &&& 0x3f).toInt64.toUInt64).toInt64).toInt32).toInt8.toInt32).toInt8.toInt32), 0, 0, 0, 0, 0, 0, 0, 0, 0, 0, 0] := A_a1_3
  refine o_aload W3 at_16 (v := (.ref a1)) rfl rfl (pc' := 18) rfl ?_
  refine o_iconst W3 (v := (1 : Int32)) at_18 rfl (pc' := 19) rfl ?_
  refine o_lloadN W3 at_19 (v := x1) rfl (pc' := 20) rfl ?_
  refine o_bipush W3 (v := (48 : Int32)) at_20 rfl (pc' := 22) rfl ?_
  refine o_lushr W3 at_22 (pc' := 23) rfl ?_
  refine o_l2i W3 at_23 (pc' := 24) rfl ?_
  refine o_i2b W3 at_24 (pc' := 25) rfl ?_
  refine o_bastore W3 A_a1_3 b_a1 at_25 (pc' := 26) rfl (i := 1) rfl (Nat.le_of_ble_eq_true rfl) ?_
  intro T4 h4 W4 K4 A_a1_4
  have A_a1_4 : OA Z h4 a1 .byte [(((((x1.toUInt64 >>> ((56 : Int32) &&& 0x3f).toInt64.toUInt64).toInt64).toInt32).toInt8.toInt32).toInt8.toInt32), (((((x1.toUInt64 >>> ((48 : Int32) &&& 0x3f).toInt64.toUInt64).toInt64).toInt32).toInt8.toInt32).toInt8.toInt32), 0, 0, 0, 0, 0, 0, 0, 0, 0, 0] := A_a1_4
  refine o_aload W4 at_26 (v := (.ref a1)) rfl rfl (pc' := 28) rfl ?_
  refine o_iconst W4 (v := (2 : Int32)) at_28 rfl (pc' := 29) rfl ?_
  refine o_lloadN W4 at_29 (v := x1) rfl (pc' := 30) rfl ?_
  refine o_bipush W4 (v := (40 : Int32)) at_30 rfl (pc' := 32) rfl ?_
  refine o_lushr W4 at_32 (pc' := 33) rfl ?_
  refine o_l2i W4 at_33 (pc' := 34) rfl ?_
  refine o_i2b W4 at_34 (pc' := 35) rfl ?_
  refine o_bastore W4 A_a1_4 b_a1 at_35 (pc' := 36) rfl (i := 2) rfl (Nat.le_of_ble_eq_true rfl) ?_
  intro T5 h5 W5 K5 A_a1_5
  have A_a1_5 : OA Z h5 a1 .byte [(((((x1.toUInt64 >>> ((56 : Int32) &&& 0x3f).toInt64.toUInt64).toInt64).toInt32).toInt8.toInt32).toInt8.toInt32), (((((x1.toUInt64 >>> ((48 : Int32) &&& 0x3f).toInt64.toUInt64).toInt64).toInt32).toInt8.toInt32).toInt8.toInt32), (((((x1.toUInt64 >>> ((40 : Int32) &&& 0x3f).toInt64.toUInt64).toInt64).toInt32).toInt8.toInt32).toInt8.toInt32), 0, 0, 0, 0, 0, 0, 0, 0, 0] := A_a1_5
  refine o_aload W5 at_36 (v := (.ref a1)) rfl rfl (pc' := 38) rfl ?_
  refine o_iconst W5 (v := (3 : Int32)) at_38 rfl (pc' := 39) rfl ?_
  refine o_lloadN W5 at_39 (v := x1) rfl (pc' := 40) rfl ?_
  refine o_bipush W5 (v := (32 : Int32)) at_40 rfl (pc' := 42) rfl ?_
  refine o_lushr W5 at_42 (pc' := 43) rfl ?_
  refine o_l2i W5 at_43 (pc' := 44) rfl ?_
  refine o_i2b W5 at_44 (pc' := 45) rfl ?_
  refine o_bastore W5 A_a1_5 b_a1 at_45 (pc' := 46) rfl (i := 3) rfl (Nat.le_of_ble_eq_true rfl) ?_
  intro T6 h6 W6 K6 A_a1_6
  have A_a1_6 : OA Z h6 a1 .byte [(((((x1.toUInt64 >>> ((56 : Int32) &&& 0x3f).toInt64.toUInt64).toInt64).toInt32).toInt8.toInt32).toInt8.toInt32), (((((x1.toUInt64 >>> ((48 : Int32) &&& 0x3f).toInt64.toUInt64).toInt64).toInt32).toInt8.toInt32).toInt8.toInt32), (((((x1.toUInt64 >>> ((40 : Int32) &&& 0x3f).toInt64.toUInt64).toInt64).toInt32).toInt8.toInt32).toInt8.toInt32), (((((x1.toUInt64 >>> ((32 : Int32) &&& 0x3f).toInt64.toUInt64).toInt64).toInt32).toInt8.toInt32).toInt8.toInt32), 0, 0, 0, 0, 0, 0, 0, 0] := A_a1_6
  refine o_aload W6 at_46 (v := (.ref a1)) rfl rfl (pc' := 48) rfl ?_
  refine o_iconst W6 (v := (4 : Int32)) at_48 rfl (pc' := 49) rfl ?_
  refine o_lloadN W6 at_49 (v := x1) rfl (pc' := 50) rfl ?_
  refine o_bipush W6 (v := (24 : Int32)) at_50 rfl (pc' := 52) rfl ?_
  refine o_lushr W6 at_52 (pc' := 53) rfl ?_
  refine o_l2i W6 at_53 (pc' := 54) rfl ?_
  refine o_i2b W6 at_54 (pc' := 55) rfl ?_
  refine o_bastore W6 A_a1_6 b_a1 at_55 (pc' := 56) rfl (i := 4) rfl (Nat.le_of_ble_eq_true rfl) ?_
  intro T7 h7 W7 K7 A_a1_7
  have A_a1_7 : OA Z h7 a1 .byte [(((((x1.toUInt64 >>> ((56 : Int32) &&& 0x3f).toInt64.toUInt64).toInt64).toInt32).toInt8.toInt32).toInt8.toInt32), (((((x1.toUInt64 >>> ((48 : Int32) &&& 0x3f).toInt64.toUInt64).toInt64).toInt32).toInt8.toInt32).toInt8.toInt32), (((((x1.toUInt64 >>> ((40 : Int32) &&& 0x3f).toInt64.toUInt64).toInt64).toInt32).toInt8.toInt32).toInt8.toInt32), (((((x1.toUInt64 >>> ((32 : Int32) &&& 0x3f).toInt64.toUInt64).toInt64).toInt32).toInt8.toInt32).toInt8.toInt32), (((((x1.toUInt64 >>> ((24 : Int32) &&& 0x3f).toInt64.toUInt64).toInt64).toInt32).toInt8.toInt32).toInt8.toInt32), 0, 0, 0, 0, 0, 0, 0] := A_a1_7
  refine o_aload W7 at_56 (v := (.ref a1)) rfl rfl (pc' := 58) rfl ?_
  refine o_iconst W7 (v := (5 : Int32)) at_58 rfl (pc' := 59) rfl ?_
  refine o_lloadN W7 at_59 (v := x1) rfl (pc' := 60) rfl ?_
  refine o_bipush W7 (v := (16 : Int32)) at_60 rfl (pc' := 62) rfl ?_
  refine o_lushr W7 at_62 (pc' := 63) rfl ?_
  refine o_l2i W7 at_63 (pc' := 64) rfl ?_
  refine o_i2b W7 at_64 (pc' := 65) rfl ?_
  refine o_bastore W7 A_a1_7 b_a1 at_65 (pc' := 66) rfl (i := 5) rfl (Nat.le_of_ble_eq_true rfl) ?_
  intro T8 h8 W8 K8 A_a1_8
  have A_a1_8 : OA Z h8 a1 .byte [(((((x1.toUInt64 >>> ((56 : Int32) &&& 0x3f).toInt64.toUInt64).toInt64).toInt32).toInt8.toInt32).toInt8.toInt32), (((((x1.toUInt64 >>> ((48 : Int32) &&& 0x3f).toInt64.toUInt64).toInt64).toInt32).toInt8.toInt32).toInt8.toInt32), (((((x1.toUInt64 >>> ((40 : Int32) &&& 0x3f).toInt64.toUInt64).toInt64).toInt32).toInt8.toInt32).toInt8.toInt32), (((((x1.toUInt64 >>> ((32 : Int32) &&& 0x3f).toInt64.toUInt64).toInt64).toInt32).toInt8.toInt32).toInt8.toInt32), (((((x1.toUInt64 >>> ((24 : Int32) &&& 0x3f).toInt64.toUInt64).toInt64).toInt32).toInt8.toInt32).toInt8.toInt32), (((((x1.toUInt64 >>> ((16 : Int32) &&& 0x3f).toInt64.toUInt64).toInt64).toInt32).toInt8.toInt32).toInt8.toInt32), 0, 0, 0, 0, 0, 0] := A_a1_8
  refine o_aload W8 at_66 (v := (.ref a1)) rfl rfl (pc' := 68) rfl ?_
  refine o_bipush W8 (v := (6 : Int32)) at_68 rfl (pc' := 70) rfl ?_
  refine o_lloadN W8 at_70 (v := x1) rfl (pc' := 71) rfl ?_
  refine o_bipush W8 (v := (8 : Int32)) at_71 rfl (pc' := 73) rfl ?_
  refine o_lushr W8 at_73 (pc' := 74) rfl ?_
  refine o_l2i W8 at_74 (pc' := 75) rfl ?_
  refine o_i2b W8 at_75 (pc' := 76) rfl ?_
  refine o_bastore W8 A_a1_8 b_a1 at_76 (pc' := 77) rfl (i := 6) rfl (Nat.le_of_ble_eq_true rfl) ?_
  intro T9 h9 W9 K9 A_a1_9
  have A_a1_9 : OA Z h9 a1 .byte [(((((x1.toUInt64 >>> ((56 : Int32) &&& 0x3f).toInt64.toUInt64).toInt64).toInt32).toInt8.toInt32).toInt8.toInt32), (((((x1.toUInt64 >>> ((48 : Int32) &&& 0x3f).toInt64.toUInt64).toInt64).toInt32).toInt8.toInt32).toInt8.toInt32), (((((x1.toUInt64 >>> ((40 : Int32) &&& 0x3f).toInt64.toUInt64).toInt64).toInt32).toInt8.toInt32).toInt8.toInt32), (((((x1.toUInt64 >>> ((32 : Int32) &&& 0x3f).toInt64.toUInt64).toInt64).toInt32).toInt8.toInt32).toInt8.toInt32), (((((x1.toUInt64 >>> ((24 : Int32) &&& 0x3f).toInt64.toUInt64).toInt64).toInt32).toInt8.toInt32).toInt8.toInt32), (((((x1.toUInt64 >>> ((16 : Int32) &&& 0x3f).toInt64.toUInt64).toInt64).toInt32).toInt8.toInt32).toInt8.toInt32), (((((x1.toUInt64 >>> ((8 : Int32) &&& 0x3f).toInt64.toUInt64).toInt64).toInt32).toInt8.toInt32).toInt8.toInt32), 0, 0, 0, 0, 0] := A_a1_9
  refine o_aload W9 at_77 (v := (.ref a1)) rfl rfl (pc' := 79) rfl ?_
  refine o_bipush W9 (v := (7 : Int32)) at_79 rfl (pc' := 81) rfl ?_
  refine o_lloadN W9 at_81 (v := x1) rfl (pc' := 82) rfl ?_
  refine o_l2i W9 at_82 (pc' := 83) rfl ?_
  refine o_i2b W9 at_83 (pc' := 84) rfl ?_
  refine o_bastore W9 A_a1_9 b_a1 at_84 (pc' := 85) rfl (i := 7) rfl (Nat.le_of_ble_eq_true rfl) ?_
  intro T10 h10 W10 K10 A_a1_10
  have A_a1_10 : OA Z h10 a1 .byte [(((((x1.toUInt64 >>> ((56 : Int32) &&& 0x3f).toInt64.toUInt64).toInt64).toInt32).toInt8.toInt32).toInt8.toInt32), (((((x1.toUInt64 >>> ((48 : Int32) &&& 0x3f).toInt64.toUInt64).toInt64).toInt32).toInt8.toInt32).toInt8.toInt32), (((((x1.toUInt64 >>> ((40 : Int32) &&& 0x3f).toInt64.toUInt64).toInt64).toInt32).toInt8.toInt32).toInt8.toInt32), (((((x1.toUInt64 >>> ((32 : Int32) &&& 0x3f).toInt64.toUInt64).toInt64).toInt32).toInt8.toInt32).toInt8.toInt32), (((((x1.toUInt64 >>> ((24 : Int32) &&& 0x3f).toInt64.toUInt64).toInt64).toInt32).toInt8.toInt32).toInt8.toInt32), (((((x1.toUInt64 >>> ((16 : Int32) &&& 0x3f).toInt64.toUInt64).toInt64).toInt32).toInt8.toInt32).toInt8.toInt32), (((((x1.toUInt64 >>> ((8 : Int32) &&& 0x3f).toInt64.toUInt64).toInt64).toInt32).toInt8.toInt32).toInt8.toInt32), (((x1.toInt32).toInt8.toInt32).toInt8.toInt32), 0, 0, 0, 0] := A_a1_10
  refine o_aload W10 at_85 (v := (.ref a1)) rfl rfl (pc' := 87) rfl ?_
  refine o_bipush W10 (v := (8 : Int32)) at_87 rfl (pc' := 89) rfl ?_
  refine o_iload W10 at_89 (v := x2) rfl (pc' := 91) rfl ?_
  refine o_bipush W10 (v := (24 : Int32)) at_91 rfl (pc' := 93) rfl ?_
  refine o_iushr W10 at_93 (pc' := 94) rfl ?_
  refine o_i2b W10 at_94 (pc' := 95) rfl ?_
  refine o_bastore W10 A_a1_10 b_a1 at_95 (pc' := 96) rfl (i := 8) rfl (Nat.le_of_ble_eq_true rfl) ?_
  intro T11 h11 W11 K11 A_a1_11
  have A_a1_11 : OA Z h11 a1 .byte [(((((x1.toUInt64 >>> ((56 : Int32) &&& 0x3f).toInt64.toUInt64).toInt64).toInt32).toInt8.toInt32).toInt8.toInt32), (((((x1.toUInt64 >>> ((48 : Int32) &&& 0x3f).toInt64.toUInt64).toInt64).toInt32).toInt8.toInt32).toInt8.toInt32), (((((x1.toUInt64 >>> ((40 : Int32) &&& 0x3f).toInt64.toUInt64).toInt64).toInt32).toInt8.toInt32).toInt8.toInt32), (((((x1.toUInt64 >>> ((32 : Int32) &&& 0x3f).toInt64.toUInt64).toInt64).toInt32).toInt8.toInt32).toInt8.toInt32), (((((x1.toUInt64 >>> ((24 : Int32) &&& 0x3f).toInt64.toUInt64).toInt64).toInt32).toInt8.toInt32).toInt8.toInt32), (((((x1.toUInt64 >>> ((16 : Int32) &&& 0x3f).toInt64.toUInt64).toInt64).toInt32).toInt8.toInt32).toInt8.toInt32), (((((x1.toUInt64 >>> ((8 : Int32) &&& 0x3f).toInt64.toUInt64).toInt64).toInt32).toInt8.toInt32).toInt8.toInt32), (((x1.toInt32).toInt8.toInt32).toInt8.toInt32), ((((x2.toUInt32 >>> ((24 : Int32) &&& 31).toUInt32).toInt32).toInt8.toInt32).toInt8.toInt32), 0, 0, 0] := A_a1_11
  refine o_aload W11 at_96 (v := (.ref a1)) rfl rfl (pc' := 98) rfl ?_
  refine o_bipush W11 (v := (9 : Int32)) at_98 rfl (pc' := 100) rfl ?_
  refine o_iload W11 at_100 (v := x2) rfl (pc' := 102) rfl ?_
  refine o_bipush W11 (v := (16 : Int32)) at_102 rfl (pc' := 104) rfl ?_
  refine o_iushr W11 at_104 (pc' := 105) rfl ?_
  refine o_i2b W11 at_105 (pc' := 106) rfl ?_
  refine o_bastore W11 A_a1_11 b_a1 at_106 (pc' := 107) rfl (i := 9) rfl (Nat.le_of_ble_eq_true rfl) ?_
  intro T12 h12 W12 K12 A_a1_12
  have A_a1_12 : OA Z h12 a1 .byte [(((((x1.toUInt64 >>> ((56 : Int32) &&& 0x3f).toInt64.toUInt64).toInt64).toInt32).toInt8.toInt32).toInt8.toInt32), (((((x1.toUInt64 >>> ((48 : Int32) &&& 0x3f).toInt64.toUInt64).toInt64).toInt32).toInt8.toInt32).toInt8.toInt32), (((((x1.toUInt64 >>> ((40 : Int32) &&& 0x3f).toInt64.toUInt64).toInt64).toInt32).toInt8.toInt32).toInt8.toInt32), (((((x1.toUInt64 >>> ((32 : Int32) &&& 0x3f).toInt64.toUInt64).toInt64).toInt32).toInt8.toInt32).toInt8.toInt32), (((((x1.toUInt64 >>> ((24 : Int32) &&& 0x3f).toInt64.toUInt64).toInt64).toInt32).toInt8.toInt32).toInt8.toInt32), (((((x1.toUInt64 >>> ((16 : Int32) &&& 0x3f).toInt64.toUInt64).toInt64).toInt32).toInt8.toInt32).toInt8.toInt32), (((((x1.toUInt64 >>> ((8 : Int32) &&& 0x3f).toInt64.toUInt64).toInt64).toInt32).toInt8.toInt32).toInt8.toInt32), (((x1.toInt32).toInt8.toInt32).toInt8.toInt32), ((((x2.toUInt32 >>> ((24 : Int32) &&& 31).toUInt32).toInt32).toInt8.toInt32).toInt8.toInt32), ((((x2.toUInt32 >>> ((16 : Int32) &&& 31).toUInt32).toInt32).toInt8.toInt32).toInt8.toInt32), 0, 0] := A_a1_12
  refine o_aload W12 at_107 (v := (.ref a1)) rfl rfl (pc' := 109) rfl ?_
  refine o_bipush W12 (v := (10 : Int32)) at_109 rfl (pc' := 111) rfl ?_
  refine o_iload W12 at_111 (v := x2) rfl (pc' := 113) rfl ?_
  refine o_bipush W12 (v := (8 : Int32)) at_113 rfl (pc' := 115) rfl ?_
  refine o_iushr W12 at_115 (pc' := 116) rfl ?_
  refine o_i2b W12 at_116 (pc' := 117) rfl ?_
  refine o_bastore W12 A_a1_12 b_a1 at_117 (pc' := 118) rfl (i := 10) rfl (Nat.le_of_ble_eq_true rfl) ?_
  intro T13 h13 W13 K13 A_a1_13
  have A_a1_13 : OA Z h13 a1 .byte [(((((x1.toUInt64 >>> ((56 : Int32) &&& 0x3f).toInt64.toUInt64).toInt64).toInt32).toInt8.toInt32).toInt8.toInt32), (((((x1.toUInt64 >>> ((48 : Int32) &&& 0x3f).toInt64.toUInt64).toInt64).toInt32).toInt8.toInt32).toInt8.toInt32), (((((x1.toUInt64 >>> ((40 : Int32) &&& 0x3f).toInt64.toUInt64).toInt64).toInt32).toInt8.toInt32).toInt8.toInt32), (((((x1.toUInt64 >>> ((32 : Int32) &&& 0x3f).toInt64.toUInt64).toInt64).toInt32).toInt8.toInt32).toInt8.toInt32), (((((x1.toUInt64 >>> ((24 : Int32) &&& 0x3f).toInt64.toUInt64).toInt64).toInt32).toInt8.toInt32).toInt8.toInt32), (((((x1.toUInt64 >>> ((16 : Int32) &&& 0x3f).toInt64.toUInt64).toInt64).toInt32).toInt8.toInt32).toInt8.toInt32), (((((x1.toUInt64 >>> ((8 : Int32) &&& 0x3f).toInt64.toUInt64).toInt64).toInt32).toInt8.toInt32).toInt8.toInt32), (((x1.toInt32).toInt8.toInt32).toInt8.toInt32), ((((x2.toUInt32 >>> ((24 : Int32) &&& 31).toUInt32).toInt32).toInt8.toInt32).toInt8.toInt32), ((((x2.toUInt32 >>> ((16 : Int32) &&& 31).toUInt32).toInt32).toInt8.toInt32).toInt8.toInt32), ((((x2.toUInt32 >>> ((8 : Int32) &&& 31).toUInt32).toInt32).toInt8.toInt32).toInt8.toInt32), 0] := A_a1_13
  refine o_aload W13 at_118 (v := (.ref a1)) rfl rfl (pc' := 120) rfl ?_
  refine o_bipush W13 (v := (11 : Int32)) at_120 rfl (pc' := 122) rfl ?_
  refine o_iload W13 at_122 (v := x2) rfl (pc' := 124) rfl ?_
  refine o_i2b W13 at_124 (pc' := 125) rfl ?_
  refine o_bastore W13 A_a1_13 b_a1 at_125 (pc' := 126) rfl (i := 11) rfl (Nat.le_of_ble_eq_true rfl) ?_
  intro T14 h14 W14 K14 A_a1_14
  have A_a1_14 : OA Z h14 a1 .byte [(((((x1.toUInt64 >>> ((56 : Int32) &&& 0x3f).toInt64.toUInt64).toInt64).toInt32).toInt8.toInt32).toInt8.toInt32), (((((x1.toUInt64 >>> ((48 : Int32) &&& 0x3f).toInt64.toUInt64).toInt64).toInt32).toInt8.toInt32).toInt8.toInt32), (((((x1.toUInt64 >>> ((40 : Int32) &&& 0x3f).toInt64.toUInt64).toInt64).toInt32).toInt8.toInt32).toInt8.toInt32), (((((x1.toUInt64 >>> ((32 : Int32) &&& 0x3f).toInt64.toUInt64).toInt64).toInt32).toInt8.toInt32).toInt8.toInt32), (((((x1.toUInt64 >>> ((24 : Int32) &&& 0x3f).toInt64.toUInt64).toInt64).toInt32).toInt8.toInt32).toInt8.toInt32), (((((x1.toUInt64 >>> ((16 : Int32) &&& 0x3f).toInt64.toUInt64).toInt64).toInt32).toInt8.toInt32).toInt8.toInt32), (((((x1.toUInt64 >>> ((8 : Int32) &&& 0x3f).toInt64.toUInt64).toInt64).toInt32).toInt8.toInt32).toInt8.toInt32), (((x1.toInt32).toInt8.toInt32).toInt8.toInt32), ((((x2.toUInt32 >>> ((24 : Int32) &&& 31).toUInt32).toInt32).toInt8.toInt32).toInt8.toInt32), ((((x2.toUInt32 >>> ((16 : Int32) &&& 31).toUInt32).toInt32).toInt8.toInt32).toInt8.toInt32), ((((x2.toUInt32 >>> ((8 : Int32) &&& 31).toUInt32).toInt32).toInt8.toInt32).toInt8.toInt32), ((x2.toInt8.toInt32).toInt8.toInt32)] := A_a1_14
  obtain ⟨xs0, hx0, A12⟩ : ∃ L : List Int32, L.length = 12 ∧ OA Z h14 a1 .byte L := ⟨_, rfl, A_a1_14⟩
  refine o_iload W14 at_126 (v := x3) rfl (pc' := 128) rfl ?_
  refine o_ldc W14 (ow hw 1 rfl) at_128 (pc' := 130) rfl ?_
  refine o_iand W14 at_130 (pc' := 131) rfl ?_
  refine o_iconst W14 (v := (5 : Int32)) at_131 rfl (pc' := 132) rfl ?_
  refine o_irem W14 at_132 (by decide) (pc' := 133) rfl ?_
  refine o_istoreG W14 (Lf := fun v15 => #[.val (.long x0), .second, .val (.long x1), .second, .val (.int x2), .val (.int x3), .val (.int x4), .val (.ref a1), .val (.int v15), .unset, .unset, .unset]) at_133 rfl (pc' := 135) rfl ?_
  intro v15 hv15
  refine o_iload W14 at_135 (v := x4) rfl (pc' := 137) rfl ?_
  refine o_ldc W14 (ow hw 1 rfl) at_137 (pc' := 139) rfl ?_
  refine o_iand W14 at_139 (pc' := 140) rfl ?_
  refine o_bipush W14 (v := (9 : Int32)) at_140 rfl (pc' := 142) rfl ?_
  refine o_irem W14 at_142 (by decide) (pc' := 143) rfl ?_
  refine o_istoreG W14 (Lf := fun v16 => #[.val (.long x0), .second, .val (.long x1), .second, .val (.int x2), .val (.int x3), .val (.int x4), .val (.ref a1), .val (.int v15), .val (.int v16), .unset, .unset]) at_143 rfl (pc' := 145) rfl ?_
  intro v16 hv16
  obtain ⟨i8, hi8, hlt8⟩ := own_ix (own_and31 x3) (y := 5) (n := 5) rfl (by decide)
  rw [← hv15] at hi8
  obtain ⟨i9, hi9, hlt9⟩ := own_ix (own_and31 x4) (y := 9) (n := 9) rfl (by decide)
  rw [← hv16] at hi9
  refine o_aload W14 at_145 (v := (.ref a1)) rfl rfl (pc' := 147) rfl ?_
  refine o_iload W14 at_147 (v := v15) rfl (pc' := 149) rfl ?_
  refine o_lloadN W14 at_149 (v := x0) rfl (pc' := 150) rfl ?_
  refine o_bipush W14 (v := (56 : Int32)) at_150 rfl (pc' := 152) rfl ?_
  refine o_lushr W14 at_152 (pc' := 153) rfl ?_
  refine o_l2i W14 at_153 (pc' := 154) rfl ?_
  refine o_i2b W14 at_154 (pc' := 155) rfl ?_
  refine o_bastore W14 A12 b_a1 at_155 (pc' := 156) rfl (i := i8) hi8 (by first | omega | (simp only [List.length_set]; omega)) ?_
  intro T17 h17 W17 K17 A_a1_17
  refine o_aload W17 at_156 (v := (.ref a1)) rfl rfl (pc' := 158) rfl ?_
  refine o_iload W17 at_158 (v := v15) rfl (pc' := 160) rfl ?_
  refine o_iconst W17 (v := (1 : Int32)) at_160 rfl (pc' := 161) rfl ?_
  refine o_iadd W17 at_161 (pc' := 162) rfl ?_
  refine o_lloadN W17 at_162 (v := x0) rfl (pc' := 163) rfl ?_
  refine o_bipush W17 (v := (48 : Int32)) at_163 rfl (pc' := 165) rfl ?_
  refine o_lushr W17 at_165 (pc' := 166) rfl ?_
  refine o_l2i W17 at_166 (pc' := 167) rfl ?_
  refine o_i2b W17 at_167 (pc' := 168) rfl ?_
  refine o_bastore W17 A_a1_17 b_a1 at_168 (pc' := 169) rfl (i := (i8 + 1)) (own_fk hi8 (by omega) (k := 1) (c := 1) rfl (by decide)) (by first | omega | (simp only [List.length_set]; omega)) ?_
  intro T18 h18 W18 K18 A_a1_18
  refine o_aload W18 at_169 (v := (.ref a1)) rfl rfl (pc' := 171) rfl ?_
  refine o_iload W18 at_171 (v := v15) rfl (pc' := 173) rfl ?_
  refine o_iconst W18 (v := (2 : Int32)) at_173 rfl (pc' := 174) rfl ?_
  refine o_iadd W18 at_174 (pc' := 175) rfl ?_
  refine o_lloadN W18 at_175 (v := x0) rfl (pc' := 176) rfl ?_
  refine o_bipush W18 (v := (40 : Int32)) at_176 rfl (pc' := 178) rfl ?_
  refine o_lushr W18 at_178 (pc' := 179) rfl ?_
  refine o_l2i W18 at_179 (pc' := 180) rfl ?_
  refine o_i2b W18 at_180 (pc' := 181) rfl ?_
  refine o_bastore W18 A_a1_18 b_a1 at_181 (pc' := 182) rfl (i := (i8 + 2)) (own_fk hi8 (by omega) (k := 2) (c := 2) rfl (by decide)) (by first | omega | (simp only [List.length_set]; omega)) ?_
  intro T19 h19 W19 K19 A_a1_19
  refine o_aload W19 at_182 (v := (.ref a1)) rfl rfl (pc' := 184) rfl ?_
  refine o_iload W19 at_184 (v := v15) rfl (pc' := 186) rfl ?_
  refine o_iconst W19 (v := (3 : Int32)) at_186 rfl (pc' := 187) rfl ?_
  refine o_iadd W19 at_187 (pc' := 188) rfl ?_
  refine o_lloadN W19 at_188 (v := x0) rfl (pc' := 189) rfl ?_
  refine o_bipush W19 (v := (32 : Int32)) at_189 rfl (pc' := 191) rfl ?_
  refine o_lushr W19 at_191 (pc' := 192) rfl ?_
  refine o_l2i W19 at_192 (pc' := 193) rfl ?_
  refine o_i2b W19 at_193 (pc' := 194) rfl ?_
  refine o_bastore W19 A_a1_19 b_a1 at_194 (pc' := 195) rfl (i := (i8 + 3)) (own_fk hi8 (by omega) (k := 3) (c := 3) rfl (by decide)) (by first | omega | (simp only [List.length_set]; omega)) ?_
  intro T20 h20 W20 K20 A_a1_20
  refine o_aload W20 at_195 (v := (.ref a1)) rfl rfl (pc' := 197) rfl ?_
  refine o_iload W20 at_197 (v := v15) rfl (pc' := 199) rfl ?_
  refine o_iconst W20 (v := (4 : Int32)) at_199 rfl (pc' := 200) rfl ?_
  refine o_iadd W20 at_200 (pc' := 201) rfl ?_
  refine o_lloadN W20 at_201 (v := x0) rfl (pc' := 202) rfl ?_
  refine o_bipush W20 (v := (24 : Int32)) at_202 rfl (pc' := 204) rfl ?_
  refine o_lushr W20 at_204 (pc' := 205) rfl ?_
  refine o_l2i W20 at_205 (pc' := 206) rfl ?_
  refine o_i2b W20 at_206 (pc' := 207) rfl ?_
  refine o_bastore W20 A_a1_20 b_a1 at_207 (pc' := 208) rfl (i := (i8 + 4)) (own_fk hi8 (by omega) (k := 4) (c := 4) rfl (by decide)) (by first | omega | (simp only [List.length_set]; omega)) ?_
  intro T21 h21 W21 K21 A_a1_21
  refine o_aload W21 at_208 (v := (.ref a1)) rfl rfl (pc' := 210) rfl ?_
  refine o_iload W21 at_210 (v := v15) rfl (pc' := 212) rfl ?_
  refine o_iconst W21 (v := (5 : Int32)) at_212 rfl (pc' := 213) rfl ?_
  refine o_iadd W21 at_213 (pc' := 214) rfl ?_
  refine o_lloadN W21 at_214 (v := x0) rfl (pc' := 215) rfl ?_
  refine o_bipush W21 (v := (16 : Int32)) at_215 rfl (pc' := 217) rfl ?_
  refine o_lushr W21 at_217 (pc' := 218) rfl ?_
  refine o_l2i W21 at_218 (pc' := 219) rfl ?_
  refine o_i2b W21 at_219 (pc' := 220) rfl ?_
  refine o_bastore W21 A_a1_21 b_a1 at_220 (pc' := 221) rfl (i := (i8 + 5)) (own_fk hi8 (by omega) (k := 5) (c := 5) rfl (by decide)) (by first | omega | (simp only [List.length_set]; omega)) ?_
  intro T22 h22 W22 K22 A_a1_22
  refine o_aload W22 at_221 (v := (.ref a1)) rfl rfl (pc' := 223) rfl ?_
  refine o_iload W22 at_223 (v := v15) rfl (pc' := 225) rfl ?_
  refine o_bipush W22 (v := (6 : Int32)) at_225 rfl (pc' := 227) rfl ?_
  refine o_iadd W22 at_227 (pc' := 228) rfl ?_
  refine o_lloadN W22 at_228 (v := x0) rfl (pc' := 229) rfl ?_
  refine o_bipush W22 (v := (8 : Int32)) at_229 rfl (pc' := 231) rfl ?_
  refine o_lushr W22 at_231 (pc' := 232) rfl ?_
  refine o_l2i W22 at_232 (pc' := 233) rfl ?_
  refine o_i2b W22 at_233 (pc' := 234) rfl ?_
  refine o_bastore W22 A_a1_22 b_a1 at_234 (pc' := 235) rfl (i := (i8 + 6)) (own_fk hi8 (by omega) (k := 6) (c := 6) rfl (by decide)) (by first | omega | (simp only [List.length_set]; omega)) ?_
  intro T23 h23 W23 K23 A_a1_23
  refine o_aload W23 at_235 (v := (.ref a1)) rfl rfl (pc' := 237) rfl ?_
  refine o_iload W23 at_237 (v := v15) rfl (pc' := 239) rfl ?_
  refine o_bipush W23 (v := (7 : Int32)) at_239 rfl (pc' := 241) rfl ?_
  refine o_iadd W23 at_241 (pc' := 242) rfl ?_
  refine o_lloadN W23 at_242 (v := x0) rfl (pc' := 243) rfl ?_
  refine o_l2i W23 at_243 (pc' := 244) rfl ?_
  refine o_i2b W23 at_244 (pc' := 245) rfl ?_
  refine o_bastore W23 A_a1_23 b_a1 at_245 (pc' := 246) rfl (i := (i8 + 7)) (own_fk hi8 (by omega) (k := 7) (c := 7) rfl (by decide)) (by first | omega | (simp only [List.length_set]; omega)) ?_
  intro T24 h24 W24 K24 A_a1_24
  refine o_iload W24 at_246 (v := v16) rfl (pc' := 248) rfl ?_
  refine o_if_ne W24 at_248 (by decide) (pq := 257) (by decide) (pc' := 251) rfl (fun hc248 => ?_) (fun hc248 => ?_)
  · refine o_lloadN W24 at_257 (v := x0) rfl (pc' := 258) rfl ?_
    refine o_bipush W24 (v := (64 : Int32)) at_258 rfl (pc' := 260) rfl ?_
    refine o_bipush W24 (v := (8 : Int32)) at_260 rfl (pc' := 262) rfl ?_
    refine o_iload W24 at_262 (v := v16) rfl (pc' := 264) rfl ?_
    refine o_imul W24 at_264 (pc' := 265) rfl ?_
    refine o_isub W24 at_265 (pc' := 266) rfl ?_
    refine o_lushr W24 at_266 (pc' := 267) rfl ?_
    refine o_lstoreG W24 (Lf := fun v25 => #[.val (.long x0), .second, .val (.long x1), .second, .val (.int x2), .val (.int x3), .val (.int x4), .val (.ref a1), .val (.int v15), .val (.int v16), .val (.long v25), .second]) at_267 rfl (pc' := 269) rfl ?_
    intro v25 hv25
    refine o_aload W24 at_269 (v := (.ref a1)) rfl rfl (pc' := 271) rfl ?_
    refine o_iload W24 at_271 (v := v15) rfl (pc' := 273) rfl ?_
    refine o_iload W24 at_273 (v := v16) rfl (pc' := 275) rfl ?_
    refine o_callSJ W24 (rm1 l Z a0 hw a1 v15 v16 h24 n0 W24.le _ i8 i9 (own_c x0) A_a1_24 hi8 hi9 (by first | omega | (simp only [List.length_set]; omega)) (by omega) (fun t ht => own_sets x0 xs0 i8 hx0 hlt8 t (by omega))) (ow hw 2 rfl) (ow hw 3 rfl) (ow hw 4 rfl) (ow hw 5 rfl) (by decide) (argsL := [(.ref a1), (.int v15), (.int v16)]) (S := []) (lenOf own_pd0 rfl) rfl rfl rfl (wt := 0) rfl (by decide) (by decide) (by decide) (by decide) (kk' := 1) rfl (nn' := 12) rfl at_275 (pc' := 278) rfl ?_
    intro r26 T26 h26 W26 q26 z26
    obtain ⟨q26, rfl⟩ := q26
    refine o_lload W26 at_278 (v := v25) rfl (pc' := 280) rfl ?_
    refine o_lcmp_ne W26 at_280 (pc1 := 281) rfl at_281 (by decide) (pq := 288) (by decide) (pc' := 284) rfl (fun hc280 => ?_) (fun hc280 => ?_)
    · exfalso
      apply hc280
      rw [q26, hv25, own_fin x0 v16 i9 hi9 (by omega) (by omega)]
    · refine o_iconst W26 (v := (1 : Int32)) at_284 rfl (pc' := 285) rfl ?_
      refine o_goto W26 at_285 (by decide) (pq := 289) (by decide) ?_
      refine o_retN W26 (t := .boolean) rfl (by simp) at_289 (by decide) (by decide) ?_
      exact rfl
  · refine o_lconst W24 (v := (0 : Int64)) at_251 rfl (pc' := 252) rfl ?_
    refine o_lstore W24 (L' := #[.val (.long x0), .second, .val (.long x1), .second, .val (.int x2), .val (.int x3), .val (.int x4), .val (.ref a1), .val (.int v15), .val (.int v16), .val (.long (0 : Int64)), .second]) at_252 rfl (pc' := 254) rfl ?_
    refine o_goto W24 at_254 (by decide) (pq := 269) (by decide) ?_
    refine o_aload W24 at_269 (v := (.ref a1)) rfl rfl (pc' := 271) rfl ?_
    refine o_iload W24 at_271 (v := v15) rfl (pc' := 273) rfl ?_
    refine o_iload W24 at_273 (v := v16) rfl (pc' := 275) rfl ?_
    refine o_callSJ W24 (rm1 l Z a0 hw a1 v15 v16 h24 n0 W24.le _ i8 i9 (own_c x0) A_a1_24 hi8 hi9 (by first | omega | (simp only [List.length_set]; omega)) (by omega) (fun t ht => own_sets x0 xs0 i8 hx0 hlt8 t (by omega))) (ow hw 2 rfl) (ow hw 3 rfl) (ow hw 4 rfl) (ow hw 5 rfl) (by decide) (argsL := [(.ref a1), (.int v15), (.int v16)]) (S := []) (lenOf own_pd0 rfl) rfl rfl rfl (wt := 0) rfl (by decide) (by decide) (by decide) (by decide) (kk' := 1) rfl (nn' := 12) rfl at_275 (pc' := 278) rfl ?_
    intro r27 T27 h27 W27 q27 z27
    obtain ⟨q27, rfl⟩ := q27
    refine o_lload W27 at_278 (v := (0 : Int64)) rfl (pc' := 280) rfl ?_
    refine o_lcmp_ne W27 at_280 (pc1 := 281) rfl at_281 (by decide) (pq := 288) (by decide) (pc' := 284) rfl (fun hc280 => ?_) (fun hc280 => ?_)
    · exfalso
      apply hc280
      obtain rfl : i9 = 0 := by omega
      rw [q27]
      rfl
    · refine o_iconst W27 (v := (1 : Int32)) at_284 rfl (pc' := 285) rfl ?_
      refine o_goto W27 at_285 (by decide) (pq := 289) (by decide) ?_
      refine o_retN W27 (t := .boolean) rfl (by simp) at_289 (by decide) (by decide) ?_
      exact rfl
set_option maxRecDepth 65536 in
theorem comes_1 {Post : Tables → Env → Array Value → State → Outcome → State → Prop} (hpost : ∀ tb e args s v u, (limb_1_1.after args s (.returned v) u = true ∧ limb_1_2.after args s (.returned v) u = true ∧ True) → FrameEnd s (.returned v) u (Jvm.fieldLocs frame_1_writes args s ++ Jvm.arrayLocs frame_1_arrays args s ++ Jvm.staticLocs frame_1_statics s) 16 128 → Post tb e args s (.returned v) u) :
    ArmFor flags0 classFile x code maxLocals ret World_1 tables_1 room_1 Calls_1 rest_1 Pre_1 Post := by
  intro l hfl _ _ p e ha hc hk s m args below hf hA hF happ hP
  obtain ⟨hcalls, hrest, hpre⟩ := hP
  obtain ⟨-, -, -, hnamed, -, -, -, hat⟩ := (Spec.applies_iff hf).mp happ
  obtain ⟨hg, hn⟩ := and_e (Cond.before_iff.mp (show (Jvm.Cond.and given_1 narrow_1).before args s = true from hpre))
  obtain ⟨g0, hg1⟩ := and_e hg
  obtain ⟨q0, hg2⟩ := and_e hg1
  obtain ⟨q1, hg3⟩ := and_e hg2
  obtain ⟨q2, hg4⟩ := and_e hg3
  obtain ⟨q3, hg5⟩ := and_e hg4
  have q4 := hg5
  obtain ⟨w0, w1, w2, w3, w4, rfl⟩ : ∃ w0 w1 w2 w3 w4 : Value, args = #[w0, w1, w2, w3, w4] := by
    have hs : args.size = 5 := by simpa [Cond.value, given_1] using g0
    obtain ⟨L⟩ := args
    match L, hs with
    | [w0, w1, w2, w3, w4], _ => exact ⟨w0, w1, w2, w3, w4, rfl⟩
  have hw := fun d (hd : d ∈ tables_1) => atoms_spec (ws := Jvm.Cond.code x code maxLocals ret :: tables_1) hat d (List.mem_cons_of_mem _ hd)
  obtain ⟨i0, ei0⟩ := isL_v q0
  obtain rfl : w0 = (.long i0) := Option.some.inj ei0
  obtain ⟨i1, ei1⟩ := isL_v q1
  obtain rfl : w1 = (.long i1) := Option.some.inj ei1
  obtain ⟨i2, ei2⟩ := is_v q2
  obtain rfl : w2 = (.int i2) := Option.some.inj ei2
  obtain ⟨i3, ei3⟩ := is_v q3
  obtain rfl : w3 = (.int i3) := Option.some.inj ei3
  obtain ⟨i4, ei4⟩ := is_v q4
  obtain rfl : w4 = (.int i4) := Option.some.inj ei4
  obtain ⟨n, o, h1, h2, h3, _, L, rfl, ⟨rfl, -, N⟩, hq⟩ := own_law l s _ hw i0 i1 i2 i3 i4 s.heap s.heap.size (Nat.le_refl _) p e ha hc hk s m _ below hf ((Spec.applies_iff_loose hf).mp happ).1 ⟨rfl, State.Warmed39.refl s, rfl⟩ trivial
  refine ⟨n, _, h1, h2, h3, hpost _ _ _ _ _ _ ⟨Cond.after_iff.mpr rfl, Cond.after_iff.mpr (eq_i res_at (Term.int_eval (1)) rfl), trivial⟩ ⟨hq.1, hq.2.1, (hq.2.2.sift fun y hy => Or.inr (N y hy)).mono (by decide) (by decide)⟩⟩
theorem main_1_1 : Claimed_1_1 := comes_1 fun _ _ _ _ _ _ h hF => ⟨h.1, hF⟩
theorem main_1_2 : Claimed_1_2 := comes_1 fun _ _ _ _ _ _ h hF => ⟨h.2.1, hF⟩
end Jvm.Pilot.@@N@@
namespace Jvm.Pilot.@@N@@
open Jvm Jvm.ClassFile Sem Op Lib Jvm.Free Jvm.Stand Jvm.Pilot.@@N@@.Jvm.D
/-! MADE BY PROGRAM (witnessworld.py) out of the Statement's table words and the real class files: 9 classes; the members and pool entries that the words name. The judged class is class 1, her method 1. -/
namespace start1
open Jvm.ClassFile
def u (s : String) : CpInfo := .utf8 (stringToUtf16 s)
/-- a pool by its gaps: so many unusable entries, then the entry; so many at the end -/
def gap : Nat → List CpInfo → List CpInfo
  | 0, r => r
  | n + 1, r => .unusable :: gap n r
def poolList (es : List (Nat × CpInfo)) (last : Nat) : List CpInfo := es.foldr (fun e r => gap e.1 (e.2 :: r)) (gap last [])
def pool (es : List (Nat × CpInfo)) (last : Nat) : Array CpInfo := ⟨poolList es last⟩
def fileOf (pool : Array CpInfo) (this : Nat) (attrs : Array Attribute := #[]) (ms : Array MethodInfo := #[]) (fl : Nat := 33) (sup : Nat := 0) (ifs : Array Nat := #[]) (fds : Array FieldInfo := #[]) : ClassFile where
  minorVersion := 0
  majorVersion := 65
  constantPool := pool
  accessFlags := fl
  thisClass := this
  superClass := sup
  interfaces := ifs
  fields := fds
  methods := ms
  attributes := attrs
def plain (name : String) (sup : Option ClassId) : Class where
  name := name
  kind := .ordinary
  loader := none
  accessFlags := 33
  super := sup
  interfaces := #[]
  cf := none
  fields := #[]
  methods := #[]
  instanceTypes := #[]
  staticTypes := #[]
  resolved := #[]
  callSites := []
  init := .initialized
  statics := none
  mirror := none

def pool0 : Array CpInfo := pool [(5, u "<init>"), (0, u "()V"), (1, .class_ 10), (1, u "java/lang/Object")] 113

def k0m0 : Method := { name := "<init>", desc := "()V", sig := { parameters := [], returnType := none }, accessFlags := 1, code := none }
/-- java/lang/Object -/
def k0 : Class := { plain "java/lang/Object" none with
  accessFlags := 33
  interfaces := #[]
  cf := some (fileOf pool0 8 #[] #[{ accessFlags := 1, nameIndex := 5, descriptorIndex := 6, attributes := #[] }] 33 0 #[] #[])
  fields := #[]
  methods := #[k0m0]
  instanceTypes := #[]
  staticTypes := #[]
  resolved := Array.replicate 124 none
  statics := none }

def pool1 : Array CpInfo := pool [(2, .class_ 4), (1, u "java/lang/Object"), (0, u "<init>"), (0, u "()V"), (0, .integer 2147483647), (0, .methodref 9 10), (0, .class_ 11), (0, .nameAndType 12 13), (0, u "com/example/plainwire/plainwire/wire/BigEndian"), (0, u "get"), (0, u "([BII)J"), (0, .class_ 15), (0, u "com/example/plainwire/plainwire/wire/BigEndianGetPinLaw"), (2, u "law"), (0, u "(JJIII)Z")] 5

def k1m0 : Method := { name := "<init>", desc := "()V", sig := { parameters := [], returnType := none }, accessFlags := 2, code := none }
def k1c1 : Code := { maxStack := 5, maxLocals := 12, code := code, exceptionTable := #[], attributes := #[] }
def k1m1 : Method := { name := "law", desc := "(JJIII)Z", sig := { parameters := [.long, .long, .int, .int, .int], returnType := some .boolean }, accessFlags := 9, code := some k1c1 }
/-- com/example/plainwire/plainwire/wire/BigEndianGetPinLaw -/
def k1 : Class := { plain "com/example/plainwire/plainwire/wire/BigEndianGetPinLaw" (some 0) with
  accessFlags := 49
  interfaces := #[]
  cf := some (fileOf pool1 14 #[] #[{ accessFlags := 2, nameIndex := 5, descriptorIndex := 6, attributes := #[] }, { accessFlags := 9, nameIndex := 18, descriptorIndex := 19, attributes := #[] }] 49 2 #[] #[])
  fields := #[]
  methods := #[k1m0, k1m1]
  instanceTypes := #[]
  staticTypes := #[]
  resolved := Array.replicate 25 none
  statics := none }

def pool2 : Array CpInfo := pool [(2, .class_ 4), (1, u "java/lang/Object"), (0, u "<init>"), (0, u "()V"), (0, .class_ 8), (0, u "com/example/plainwire/plainwire/wire/BigEndian"), (2, u "get"), (0, u "([BII)J")] 5

def k2m0 : Method := { name := "<init>", desc := "()V", sig := { parameters := [], returnType := none }, accessFlags := 2, code := none }
def k2c1 : Code := { maxStack := 4, maxLocals := 6, code := prog_32_method_2_code, exceptionTable := #[], attributes := #[] }
def k2m1 : Method := { name := "get", desc := "([BII)J", sig := { parameters := [(.array .byte), .int, .int], returnType := some .long }, accessFlags := 8, code := some k2c1 }
/-- com/example/plainwire/plainwire/wire/BigEndian -/
def k2 : Class := { plain "com/example/plainwire/plainwire/wire/BigEndian" (some 0) with
  accessFlags := 48
  interfaces := #[]
  cf := some (fileOf pool2 7 #[] #[{ accessFlags := 2, nameIndex := 5, descriptorIndex := 6, attributes := #[] }, { accessFlags := 8, nameIndex := 11, descriptorIndex := 12, attributes := #[] }] 48 2 #[] #[])
  fields := #[]
  methods := #[k2m0, k2m1]
  instanceTypes := #[]
  staticTypes := #[]
  resolved := Array.replicate 18 none
  statics := none }

def pool3 : Array CpInfo := pool [(1, u "java/lang/Cloneable"), (0, .class_ 1), (0, u "java/lang/Object"), (0, .class_ 3)] 3

/-- java/lang/Cloneable -/
def k3 : Class := { plain "java/lang/Cloneable" (some 0) with
  accessFlags := 1537
  interfaces := #[]
  cf := some (fileOf pool3 2 #[] #[] 1537 4 #[] #[])
  fields := #[]
  methods := #[]
  instanceTypes := #[]
  staticTypes := #[]
  resolved := Array.replicate 8 none
  statics := none }

def pool4 : Array CpInfo := pool [(1, u "java/io/Serializable"), (0, .class_ 1), (0, u "java/lang/Object"), (0, .class_ 3)] 3

/-- java/io/Serializable -/
def k4 : Class := { plain "java/io/Serializable" (some 0) with
  accessFlags := 1537
  interfaces := #[]
  cf := some (fileOf pool4 2 #[] #[] 1537 4 #[] #[])
  fields := #[]
  methods := #[]
  instanceTypes := #[]
  staticTypes := #[]
  resolved := Array.replicate 8 none
  statics := none }

/-- the primitive byte -/
def k5 : Class := { plain "byte" none with kind := .primitive 'B', accessFlags := 0x411 }
/-- [B -/
def k6 : Class := { plain "[B" (some 0) with kind := .array 5 .byte, interfaces := #[3, 4], accessFlags := 1041 }

/-- the primitive int -/
def k7 : Class := { plain "int" none with kind := .primitive 'I', accessFlags := 0x411 }
/-- [I -/
def k8 : Class := { plain "[I" (some 0) with kind := .array 7 .int, interfaces := #[3, 4], accessFlags := 1041 }

def heap : Heap := #[]
def classes : Array Class := #[k0, k1, k2, k3, k4, k5, k6, k7, k8]
def interned : List (Array UInt16 × Addr) := []
def slotsUsed : Nat := 0
def theMethod : MethodId := ⟨1, 1⟩
def args0 : Array Value := #[.long 5, .long 77, .int 1, .int 2, .int 3]
def aboutOver (below : List Frame) : State where
  vm := { classes := classes, interned := interned.toArray }
  heap := heap
  slotsUsed := slotsUsed
  threads := #[{ frames := .invoking theMethod args0 :: below }]
def below0 : List Frame := [.native { method := ⟨0, 0⟩, args := #[] }]
def about1 : State := aboutOver below0
def p0 : Program := .bare "" "" ""
def e0 : Env := launch0.env 0 0 0
theorem w_frames : about1.frames = Frame.invoking theMethod args0 :: below0 := rfl
set_option maxRecDepth 65536 in
theorem w_args : argsFit about1.vm theMethod args0 = true := by decide +kernel
set_option maxRecDepth 65536 in
theorem w_heap : heapFits about1 = true := by decide +kernel
set_option maxRecDepth 65536 in
theorem w_runnable : about1.curStatus? = some .runnable := by decide +kernel
set_option maxRecDepth 65536 in
theorem w_alone : about1.alone = true := by decide +kernel
set_option maxRecDepth 65536 in
theorem w_named : about1.methodNamed? x = some theMethod := by decide +kernel
set_option maxRecDepth 65536 in
theorem w_hears : about1.hears theMethod below0 = true := by decide +kernel
set_option maxRecDepth 65536 in
theorem w_ripe : about1.ripe theMethod args0 below0 = true := by decide +kernel
theorem w_running : about1.status = .running := rfl
set_option maxRecDepth 65536 in
theorem w_room : about1.hasRoom e0.platform room_1 = true :=
  launch0.hasRoom_least _ room_1 (by decide +kernel) (by decide +kernel) (by decide +kernel) (by decide +kernel) (by decide +kernel) (by decide +kernel)
theorem allAtoms_all (ts : List Jvm.Cond) (a : Array Jvm.Value) (st : Jvm.State) : (allAtoms ts).before a st = ts.all (fun c => c.before a st) := by
  induction ts with
  | nil => rfl
  | cons c t ih =>
    show (Jvm.Cond.and c (allAtoms t)).before a st = _
    rw [Jvm.Cond.before_and, ih, List.all_cons]
def words1 : List Jvm.Cond := Jvm.Cond.code x code maxLocals ret :: tables_1
/-- a 'code' word, met by the world's own term for the bytes: nothing is compared byte by byte -/
theorem code_word {y : MethodName} {bytes : ByteArray} {mx : Nat} {rt : Option FieldType} {a : Array Value} {s : State} {m : MethodId} {meth : Method} {c : Code} (h1 : s.methodNamed? y = some m) (h2 : s.vm.method? m = some meth) (h3 : meth.code = some c) (h4 : c.code = bytes)
    (h5 : (c.maxLocals == mx && c.exceptionTable.isEmpty && decide (c.maxStack ≤ mostOperands) && decide (meth.sig.returnType = rt) && !meth.locks && decide (parseMethodDescriptor y.desc = some meth.sig)) = true) : (Jvm.Cond.code y bytes mx rt).before a s = true := by
  simp only [Bool.and_eq_true, beq_iff_eq, Bool.not_eq_true', decide_eq_true_eq] at h5
  obtain ⟨⟨⟨⟨⟨g1, g2⟩, g3⟩, g4⟩, g5⟩, g6⟩ := h5
  simp [Cond.before, Cond.holds, Cond.value, h1, h2, h3, h4, g1, g2, g3, g4, g5, g6]
def isCode : Jvm.Cond → Bool
  | .code _ _ _ _ => true
  | _ => false
theorem all_split {L : List Jvm.Cond} {P : Jvm.Cond → Bool} (h1 : L.all (fun c => isCode c || P c) = true) (h2 : ∀ c ∈ L.filter isCode, P c = true) : L.all P = true := by
  refine List.all_eq_true.mpr fun c hc => ?_
  have h := List.all_eq_true.mp h1 c hc
  rcases Bool.eq_false_or_eq_true (isCode c) with hi | hi
  · exact h2 c (List.mem_filter.mpr ⟨hc, hi⟩)
  · simpa [hi] using h
set_option maxRecDepth 65536 in
theorem w_c0 : (Jvm.Cond.code x code maxLocals ret).before args0 about1 = true := code_word (m := ⟨1, 1⟩) (meth := k1m1) (c := k1c1) (by decide +kernel) rfl rfl rfl (by decide +kernel)
set_option maxRecDepth 65536 in
theorem w_c1 : (Jvm.Cond.code ({ cls := "com/example/plainwire/plainwire/wire/BigEndian", name := "get", desc := "([BII)J" } : Jvm.MethodName) prog_32_method_2_code (6 : Nat) (Option.some Jvm.ClassFile.FieldType.long)).before args0 about1 = true := code_word (m := ⟨2, 1⟩) (meth := k2m1) (c := k2c1) (by decide +kernel) rfl rfl rfl (by decide +kernel)
def codes1 : List Jvm.Cond := [Jvm.Cond.code x code maxLocals ret, Jvm.Cond.code ({ cls := "com/example/plainwire/plainwire/wire/BigEndian", name := "get", desc := "([BII)J" } : Jvm.MethodName) prog_32_method_2_code (6 : Nat) (Option.some Jvm.ClassFile.FieldType.long)]
set_option maxRecDepth 65536 in
theorem codes_eq : words1.filter isCode = codes1 := rfl
theorem w_codes : ∀ c ∈ words1.filter isCode, c.before args0 about1 = true := by
  rw [codes_eq]
  intro c hc
  simp only [codes1, List.mem_cons, List.not_mem_nil, or_false] at hc
  rcases hc with rfl | rfl
  · exact w_c0
  · exact w_c1
set_option maxRecDepth 65536 in
theorem w_t1 : words1.all (fun c => isCode c || c.before args0 about1) = true := by decide +kernel
theorem w_tables : (allAtoms (Jvm.Cond.code x code maxLocals ret :: tables_1)).before args0 about1 = true := by
  rw [allAtoms_all]
  show words1.all (fun c => c.before args0 about1) = true
  refine all_split ?_ w_codes
  rw [w_t1]
set_option maxRecDepth 65536 in
theorem w_case : (Jvm.Cond.and given_1 narrow_1).before args0 about1 = true := by decide +kernel
theorem w_applies : (headSpec (Jvm.Cond.code x code maxLocals ret :: tables_1) room_1).applies x e0.platform about1 = true :=
  (Spec.applies_iff w_frames).mpr ⟨w_running, w_runnable, w_alone, w_named, w_hears, w_ripe, w_room, w_tables⟩
theorem atStart : AtStart classFile x code maxLocals ret World_1 tables_1 room_1 Calls_1 rest_1 Pre_1 launch0 p0 e0 about1 theMethod args0 below0 :=
  ⟨lists_1, trivial, launch0.admits_env _ _ _, launch0.least_env, fairChoices_fair.cas, fairChoices_fair.clock, w_frames, w_args, w_heap, w_applies, trivial, trivial, w_case⟩
end start1
theorem witness_1 : WitnessClaimed_1 := ⟨start1.p0, start1.e0, start1.about1, start1.theMethod, start1.args0, start1.below0, start1.atStart⟩
end Jvm.Pilot.@@N@@
