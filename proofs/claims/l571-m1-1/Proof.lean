import JvmDerived
import JvmDerived.Pilot.@@N@@Statement
import JvmDerived.Pilot.@@N@@Code
set_option linter.unusedVariables false
set_option linter.unusedSimpArgs false
@@BLOCK:NumsL.lean.txt@@
namespace Jvm.Pilot.@@N@@
open Jvm Jvm.ClassFile Sem Op Lib Jvm.Free Jvm.Stand Jvm.LawKit Jvm.RoadKit Bundle Jvm.Pilot.@@N@@.Jvm.D
section OwnKit
variable {p : Program} {l : Launch} {e : Env} {R : Room} {s : State} {m : MethodId} {args : Array Value} {below : List Frame} {meth : Method} {c : Code} {Z : State} {B : ByteArray} {ml : Nat} {own nm : String} {rt : Option FieldType} {n0 z0 n1 z1 kc ns : Nat} {EN : Outcome → State → List Loc → Prop} {T : State} {h h' : Heap} {kk nn kk' nn' : Nat} {Q : Option Value → Heap → Prop} {pc pc' pq : Nat} {L L' : Array Slot} {S : List Value} {a0 : Array Value}
/-- what one body's walk keeps throughout -/
def OCx (p : Program) (s : State) (m : MethodId) (meth : Method) (c : Code) (Z : State) (B : ByteArray) (ml : Nat) (own nm : String) (rt : Option FieldType) : Prop :=
  p.tables.exec = Jvm.exec ∧ Z.Warmed39 s.vm ∧ c.code = B ∧ c.maxLocals = ml ∧ s.vm.findClass own = some m.cls ∧ meth.name = nm ∧ meth.sig.returnType = rt ∧ meth.locks = false
/-- where the walk stands: the state T, its heap h, what was made so far -/
def OW (p : Program) (l : Launch) (e : Env) (R : Room) (s : State) (m : MethodId) (args : Array Value) (below : List Frame) (meth : Method) (c : Code) (Z : State) (B : ByteArray) (ml : Nat) (own nm : String) (rt : Option FieldType) (n0 z0 : Nat) (T : State) (h : Heap) (kk nn : Nat) : Prop :=
  OCx p s m meth c Z B ml own nm rt ∧ n0 ≤ z0 ∧ z0 ≤ h.size ∧ T.heap = h ∧ ∃ locs, Stand p l e R s m args below meth c T locs kk nn ∧ Fr n0 locs
/-- what a body leaves: its own word, and that nothing old was written or lost -/
def OQ (Q : Option Value → Heap → Prop) (z0 n0 : Nat) (v : Option Value) (h : Heap) (L : List Loc) : Prop := Q v h ∧ z0 ≤ h.size ∧ Fr n0 L
/-- the run from here ends well -/
def OF (p : Program) (e : Env) (below : List Frame) (n0 z0 : Nat) (EN : Outcome → State → List Loc → Prop) (Q : Option Value → Heap → Prop) (T : State) (f : JFrame) : Prop :=
  ∃ s₂ o, Steps p.tables e below (T.setTop f) s₂ ∧ s₂.status = .running ∧ Ended s₂ below o ∧ ∃ v L, o = .returned v ∧ OQ Q z0 n0 v s₂.heap L ∧ EN o s₂ L
/-- the end as the narrow frame has it -/
def ENn (s : State) (kc ns : Nat) : Outcome → State → List Loc → Prop := fun o t L => FrameEnd s o t L kc ns
theorem OW.here (W : OW p l e R s m args below meth c Z B ml own nm rt n0 z0 T h kk nn) : At T m c below := by obtain ⟨-, -, -, -, _, X, -⟩ := W; exact X.here
theorem OW.hx (W : OW p l e R s m args below meth c Z B ml own nm rt n0 z0 T h kk nn) : p.tables.exec = Jvm.exec := W.1.1
theorem OW.hZ (W : OW p l e R s m args below meth c Z B ml own nm rt n0 z0 T h kk nn) : Z.Warmed39 s.vm := W.1.2.1
theorem OW.by (W : OW p l e R s m args below meth c Z B ml own nm rt n0 z0 T h kk nn) : c.code = B := W.1.2.2.1
theorem OW.hml (W : OW p l e R s m args below meth c Z B ml own nm rt n0 z0 T h kk nn) : c.maxLocals = ml := W.1.2.2.2.1
theorem OW.hown (W : OW p l e R s m args below meth c Z B ml own nm rt n0 z0 T h kk nn) : s.vm.findClass own = some m.cls := W.1.2.2.2.2.1
theorem OW.le (W : OW p l e R s m args below meth c Z B ml own nm rt n0 z0 T h kk nn) : n0 ≤ h.size := Nat.le_trans W.2.1 W.2.2.1
theorem OF.step {T' : State} {f f' : JFrame} (hs : ∀ t, Steps p.tables e below (T'.setTop f') t → Steps p.tables e below (T.setTop f) t) (q : OF p e below n1 z1 EN Q T' f') : OF p e below n1 z1 EN Q T f := by
  obtain ⟨s₂, o, h1, h2⟩ := q
  exact ⟨s₂, o, hs _ h1, h2⟩
theorem OF.cast {f f' : JFrame} (q : f = f') (h : OF p e below n1 z1 EN Q T f') : OF p e below n1 z1 EN Q T f := q ▸ h
theorem o_iloadN {i : Fin 4} {v : Int32} (W : OW p l e R s m args below meth c Z B ml own nm rt n0 z0 T h kk nn) (hd : decode B pc = .ok (.iload_n i, 1)) (hl : L[i.val]? = some (.val (.int v))) (hp : pc + 1 = pc')
    (k1 : OF p e below n1 z1 EN Q T (mkF m pc' L (.int v :: S))) : OF p e below n1 z1 EN Q T (mkF m pc L S) := by
  subst hp; exact OF.step (fun t q => XS.iloadN W.here W.hx rfl (hb W.by hd) hl q) k1
theorem o_iload {i : Nat} {v : Int32} (W : OW p l e R s m args below meth c Z B ml own nm rt n0 z0 T h kk nn) (hd : decode B pc = .ok (.iload i, 2)) (hl : L[i]? = some (.val (.int v))) (hp : pc + 2 = pc')
    (k1 : OF p e below n1 z1 EN Q T (mkF m pc' L (.int v :: S))) : OF p e below n1 z1 EN Q T (mkF m pc L S) := by
  subst hp; exact OF.step (fun t q => XS.iload W.here W.hx rfl (hb W.by hd) hl q) k1
theorem o_lloadN {i : Fin 4} {v : Int64} (W : OW p l e R s m args below meth c Z B ml own nm rt n0 z0 T h kk nn) (hd : decode B pc = .ok (.lload_n i, 1)) (hl : L[i.val]? = some (.val (.long v))) (hp : pc + 1 = pc')
    (k1 : OF p e below n1 z1 EN Q T (mkF m pc' L (.long v :: S))) : OF p e below n1 z1 EN Q T (mkF m pc L S) := by
  subst hp; exact OF.step (fun t q => XS.lloadN W.here W.hx rfl (hb W.by hd) hl q) k1
theorem o_lload {i : Nat} {v : Int64} (W : OW p l e R s m args below meth c Z B ml own nm rt n0 z0 T h kk nn) (hd : decode B pc = .ok (.lload i, 2)) (hl : L[i]? = some (.val (.long v))) (hp : pc + 2 = pc')
    (k1 : OF p e below n1 z1 EN Q T (mkF m pc' L (.long v :: S))) : OF p e below n1 z1 EN Q T (mkF m pc L S) := by
  subst hp; exact OF.step (fun t q => XS.lload W.here W.hx rfl (hb W.by hd) hl q) k1
theorem o_aloadN {i : Fin 4} {v : Value} (W : OW p l e R s m args below meth c Z B ml own nm rt n0 z0 T h kk nn) (hd : decode B pc = .ok (.aload_n i, 1)) (hl : L[i.val]? = some (.val v)) (hv : v.isRef = true) (hp : pc + 1 = pc')
    (k1 : OF p e below n1 z1 EN Q T (mkF m pc' L (v :: S))) : OF p e below n1 z1 EN Q T (mkF m pc L S) := by
  subst hp; exact OF.step (fun t q => XS.aloadN W.here W.hx rfl (hb W.by hd) hl hv q) k1
theorem o_aload {i : Nat} {v : Value} (W : OW p l e R s m args below meth c Z B ml own nm rt n0 z0 T h kk nn) (hd : decode B pc = .ok (.aload i, 2)) (hl : L[i]? = some (.val v)) (hv : v.isRef = true) (hp : pc + 2 = pc')
    (k1 : OF p e below n1 z1 EN Q T (mkF m pc' L (v :: S))) : OF p e below n1 z1 EN Q T (mkF m pc L S) := by
  subst hp; exact OF.step (fun t q => XS.aload W.here W.hx rfl (hb W.by hd) hl hv q) k1
theorem o_istoreN {i : Fin 4} {x : Int32} (W : OW p l e R s m args below meth c Z B ml own nm rt n0 z0 T h kk nn) (hd : decode B pc = .ok (.istore_n i, 1)) (hl : storeLocals L i.val (.int x) = some L') (hp : pc + 1 = pc')
    (k1 : OF p e below n1 z1 EN Q T (mkF m pc' L' S)) : OF p e below n1 z1 EN Q T (mkF m pc L (.int x :: S)) := by
  subst hp; exact OF.step (fun t q => XS.istoreN W.here W.hx rfl (hb W.by hd) rfl hl q) k1
theorem o_istoreNG {i : Fin 4} {x : Int32} {Lf : Int32 → Array Slot} (W : OW p l e R s m args below meth c Z B ml own nm rt n0 z0 T h kk nn) (hd : decode B pc = .ok (.istore_n i, 1)) (hl : storeLocals L i.val (.int x) = some (Lf x)) (hp : pc + 1 = pc')
    (k1 : ∀ v, v = x → OF p e below n1 z1 EN Q T (mkF m pc' (Lf v) S)) : OF p e below n1 z1 EN Q T (mkF m pc L (.int x :: S)) := o_istoreN W hd hl hp (k1 x rfl)
theorem o_istore {i : Nat} {x : Int32} (W : OW p l e R s m args below meth c Z B ml own nm rt n0 z0 T h kk nn) (hd : decode B pc = .ok (.istore i, 2)) (hl : storeLocals L i (.int x) = some L') (hp : pc + 2 = pc')
    (k1 : OF p e below n1 z1 EN Q T (mkF m pc' L' S)) : OF p e below n1 z1 EN Q T (mkF m pc L (.int x :: S)) := by
  subst hp; exact OF.step (fun t q => XS.istore W.here W.hx rfl (hb W.by hd) rfl hl q) k1
theorem o_istoreG {i : Nat} {x : Int32} {Lf : Int32 → Array Slot} (W : OW p l e R s m args below meth c Z B ml own nm rt n0 z0 T h kk nn) (hd : decode B pc = .ok (.istore i, 2)) (hl : storeLocals L i (.int x) = some (Lf x)) (hp : pc + 2 = pc')
    (k1 : ∀ v, v = x → OF p e below n1 z1 EN Q T (mkF m pc' (Lf v) S)) : OF p e below n1 z1 EN Q T (mkF m pc L (.int x :: S)) := o_istore W hd hl hp (k1 x rfl)
theorem o_lstoreN {i : Fin 4} {x : Int64} (W : OW p l e R s m args below meth c Z B ml own nm rt n0 z0 T h kk nn) (hd : decode B pc = .ok (.lstore_n i, 1)) (hl : storeLocals L i.val (.long x) = some L') (hp : pc + 1 = pc')
    (k1 : OF p e below n1 z1 EN Q T (mkF m pc' L' S)) : OF p e below n1 z1 EN Q T (mkF m pc L (.long x :: S)) := by
  subst hp; exact OF.step (fun t q => XS.lstoreN W.here W.hx rfl (hb W.by hd) rfl hl q) k1
theorem o_lstoreNG {i : Fin 4} {x : Int64} {Lf : Int64 → Array Slot} (W : OW p l e R s m args below meth c Z B ml own nm rt n0 z0 T h kk nn) (hd : decode B pc = .ok (.lstore_n i, 1)) (hl : storeLocals L i.val (.long x) = some (Lf x)) (hp : pc + 1 = pc')
    (k1 : ∀ v, v = x → OF p e below n1 z1 EN Q T (mkF m pc' (Lf v) S)) : OF p e below n1 z1 EN Q T (mkF m pc L (.long x :: S)) := o_lstoreN W hd hl hp (k1 x rfl)
theorem o_lstore {i : Nat} {x : Int64} (W : OW p l e R s m args below meth c Z B ml own nm rt n0 z0 T h kk nn) (hd : decode B pc = .ok (.lstore i, 2)) (hl : storeLocals L i (.long x) = some L') (hp : pc + 2 = pc')
    (k1 : OF p e below n1 z1 EN Q T (mkF m pc' L' S)) : OF p e below n1 z1 EN Q T (mkF m pc L (.long x :: S)) := by
  subst hp; exact OF.step (fun t q => XS.lstore W.here W.hx rfl (hb W.by hd) rfl hl q) k1
theorem o_lstoreG {i : Nat} {x : Int64} {Lf : Int64 → Array Slot} (W : OW p l e R s m args below meth c Z B ml own nm rt n0 z0 T h kk nn) (hd : decode B pc = .ok (.lstore i, 2)) (hl : storeLocals L i (.long x) = some (Lf x)) (hp : pc + 2 = pc')
    (k1 : ∀ v, v = x → OF p e below n1 z1 EN Q T (mkF m pc' (Lf v) S)) : OF p e below n1 z1 EN Q T (mkF m pc L (.long x :: S)) := o_lstore W hd hl hp (k1 x rfl)
theorem o_astoreN {i : Fin 4} {x : Value} (W : OW p l e R s m args below meth c Z B ml own nm rt n0 z0 T h kk nn) (hd : decode B pc = .ok (.astore_n i, 1)) (hv : x.isRef = true) (hl : storeLocals L i.val x = some L') (hp : pc + 1 = pc')
    (k1 : OF p e below n1 z1 EN Q T (mkF m pc' L' S)) : OF p e below n1 z1 EN Q T (mkF m pc L (x :: S)) := by
  subst hp; exact OF.step (fun t q => XS.astoreN W.here W.hx rfl (hb W.by hd) rfl hv hl q) k1
theorem o_astore {i : Nat} {x : Value} (W : OW p l e R s m args below meth c Z B ml own nm rt n0 z0 T h kk nn) (hd : decode B pc = .ok (.astore i, 2)) (hv : x.isRef = true) (hl : storeLocals L i x = some L') (hp : pc + 2 = pc')
    (k1 : OF p e below n1 z1 EN Q T (mkF m pc' L' S)) : OF p e below n1 z1 EN Q T (mkF m pc L (x :: S)) := by
  subst hp; exact OF.step (fun t q => XS.astore W.here W.hx rfl (hb W.by hd) rfl hv hl q) k1
theorem o_iconst {i : Int} {v : Int32} (W : OW p l e R s m args below meth c Z B ml own nm rt n0 z0 T h kk nn) (hd : decode B pc = .ok (.iconst i, 1)) (hv : Int32.ofInt i = v) (hp : pc + 1 = pc')
    (k1 : OF p e below n1 z1 EN Q T (mkF m pc' L (.int v :: S))) : OF p e below n1 z1 EN Q T (mkF m pc L S) := by
  subst hp hv; exact OF.step (fun t q => XS.iconst W.here W.hx rfl (hb W.by hd) q) k1
theorem o_bipush {i : Int} {v : Int32} (W : OW p l e R s m args below meth c Z B ml own nm rt n0 z0 T h kk nn) (hd : decode B pc = .ok (.bipush i, 2)) (hv : (Int8.ofInt i).toInt32 = v) (hp : pc + 2 = pc')
    (k1 : OF p e below n1 z1 EN Q T (mkF m pc' L (.int v :: S))) : OF p e below n1 z1 EN Q T (mkF m pc L S) := by
  subst hp hv; exact OF.step (fun t q => XS.bipush W.here W.hx rfl (hb W.by hd) q) k1
theorem o_sipush {i : Int} {v : Int32} (W : OW p l e R s m args below meth c Z B ml own nm rt n0 z0 T h kk nn) (hd : decode B pc = .ok (.sipush i, 3)) (hv : (Int16.ofInt i).toInt32 = v) (hp : pc + 3 = pc')
    (k1 : OF p e below n1 z1 EN Q T (mkF m pc' L (.int v :: S))) : OF p e below n1 z1 EN Q T (mkF m pc L S) := by
  subst hp hv; exact OF.step (fun t q => XS.sipush W.here W.hx rfl (hb W.by hd) q) k1
theorem o_lconst {i : Fin 2} {v : Int64} (W : OW p l e R s m args below meth c Z B ml own nm rt n0 z0 T h kk nn) (hd : decode B pc = .ok (.lconst i, 1)) (hv : Int64.ofNat i = v) (hp : pc + 1 = pc')
    (k1 : OF p e below n1 z1 EN Q T (mkF m pc' L (.long v :: S))) : OF p e below n1 z1 EN Q T (mkF m pc L S) := by
  subst hp hv; exact OF.step (fun t q => XS.lconst W.here W.hx rfl (hb W.by hd) q) k1
theorem o_ldc {i : Nat} {v : Int32} (W : OW p l e R s m args below meth c Z B ml own nm rt n0 z0 T h kk nn) (w : (Jvm.Cond.constant own i v).before a0 Z = true) (hd : decode B pc = .ok (.ldc i, 2)) (hp : pc + 2 = pc')
    (k1 : OF p e below n1 z1 EN Q T (mkF m pc' L (.int v :: S))) : OF p e below n1 z1 EN Q T (mkF m pc L S) := by
  subst hp; obtain ⟨_, X, _⟩ := W.2.2.2.2; exact OF.step (fun t q => X.ldcInt W.hx W.hown (mvT W.hZ w) (g := mkF m pc L S) rfl (hb W.by hd) t q) k1
theorem o_ldc_w {i : Nat} {v : Int32} (W : OW p l e R s m args below meth c Z B ml own nm rt n0 z0 T h kk nn) (w : (Jvm.Cond.constant own i v).before a0 Z = true) (hd : decode B pc = .ok (.ldc_w i, 3)) (hp : pc + 3 = pc')
    (k1 : OF p e below n1 z1 EN Q T (mkF m pc' L (.int v :: S))) : OF p e below n1 z1 EN Q T (mkF m pc L S) := by
  subst hp; obtain ⟨_, X, _⟩ := W.2.2.2.2; exact OF.step (fun t q => X.ldcwInt W.hx W.hown (mvT W.hZ w) (g := mkF m pc L S) rfl (hb W.by hd) t q) k1
theorem o_ldc2_w {i : Nat} {v : Int64} (W : OW p l e R s m args below meth c Z B ml own nm rt n0 z0 T h kk nn) (w : (Jvm.Cond.constantLong own i v).before a0 Z = true) (hd : decode B pc = .ok (.ldc2_w i, 3)) (hp : pc + 3 = pc')
    (k1 : OF p e below n1 z1 EN Q T (mkF m pc' L (.long v :: S))) : OF p e below n1 z1 EN Q T (mkF m pc L S) := by
  subst hp; obtain ⟨_, X, _⟩ := W.2.2.2.2; exact OF.step (fun t q => X.ldc2Long W.hx W.hown (mvT W.hZ w) (g := mkF m pc L S) rfl (hb W.by hd) t q) k1
theorem o_iadd {x y : Int32} (W : OW p l e R s m args below meth c Z B ml own nm rt n0 z0 T h kk nn) (hd : decode B pc = .ok (.iadd, 1)) (hp : pc + 1 = pc')
    (k1 : OF p e below n1 z1 EN Q T (mkF m pc' L (.int (x + y) :: S))) : OF p e below n1 z1 EN Q T (mkF m pc L (.int y :: .int x :: S)) := by
  subst hp; exact OF.step (fun t q => XS.iadd W.here W.hx rfl (hb W.by hd) rfl q) k1
theorem o_isub {x y : Int32} (W : OW p l e R s m args below meth c Z B ml own nm rt n0 z0 T h kk nn) (hd : decode B pc = .ok (.isub, 1)) (hp : pc + 1 = pc')
    (k1 : OF p e below n1 z1 EN Q T (mkF m pc' L (.int (x - y) :: S))) : OF p e below n1 z1 EN Q T (mkF m pc L (.int y :: .int x :: S)) := by
  subst hp; exact OF.step (fun t q => XS.isub W.here W.hx rfl (hb W.by hd) rfl q) k1
theorem o_imul {x y : Int32} (W : OW p l e R s m args below meth c Z B ml own nm rt n0 z0 T h kk nn) (hd : decode B pc = .ok (.imul, 1)) (hp : pc + 1 = pc')
    (k1 : OF p e below n1 z1 EN Q T (mkF m pc' L (.int (x * y) :: S))) : OF p e below n1 z1 EN Q T (mkF m pc L (.int y :: .int x :: S)) := by
  subst hp; exact OF.step (fun t q => XS.imul W.here W.hx rfl (hb W.by hd) rfl q) k1
theorem o_iand {x y : Int32} (W : OW p l e R s m args below meth c Z B ml own nm rt n0 z0 T h kk nn) (hd : decode B pc = .ok (.iand, 1)) (hp : pc + 1 = pc')
    (k1 : OF p e below n1 z1 EN Q T (mkF m pc' L (.int (x &&& y) :: S))) : OF p e below n1 z1 EN Q T (mkF m pc L (.int y :: .int x :: S)) := by
  subst hp; exact OF.step (fun t q => XS.iand W.here W.hx rfl (hb W.by hd) rfl q) k1
theorem o_ior {x y : Int32} (W : OW p l e R s m args below meth c Z B ml own nm rt n0 z0 T h kk nn) (hd : decode B pc = .ok (.ior, 1)) (hp : pc + 1 = pc')
    (k1 : OF p e below n1 z1 EN Q T (mkF m pc' L (.int (x ||| y) :: S))) : OF p e below n1 z1 EN Q T (mkF m pc L (.int y :: .int x :: S)) := by
  subst hp; exact OF.step (fun t q => XS.ior W.here W.hx rfl (hb W.by hd) rfl q) k1
theorem o_ixor {x y : Int32} (W : OW p l e R s m args below meth c Z B ml own nm rt n0 z0 T h kk nn) (hd : decode B pc = .ok (.ixor, 1)) (hp : pc + 1 = pc')
    (k1 : OF p e below n1 z1 EN Q T (mkF m pc' L (.int (x ^^^ y) :: S))) : OF p e below n1 z1 EN Q T (mkF m pc L (.int y :: .int x :: S)) := by
  subst hp; exact OF.step (fun t q => XS.ixor W.here W.hx rfl (hb W.by hd) rfl q) k1
theorem o_ishl {x y : Int32} (W : OW p l e R s m args below meth c Z B ml own nm rt n0 z0 T h kk nn) (hd : decode B pc = .ok (.ishl, 1)) (hp : pc + 1 = pc')
    (k1 : OF p e below n1 z1 EN Q T (mkF m pc' L (.int (x <<< (y &&& 31)) :: S))) : OF p e below n1 z1 EN Q T (mkF m pc L (.int y :: .int x :: S)) := by
  subst hp; exact OF.step (fun t q => XS.ishl W.here W.hx rfl (hb W.by hd) rfl q) k1
theorem o_ishr {x y : Int32} (W : OW p l e R s m args below meth c Z B ml own nm rt n0 z0 T h kk nn) (hd : decode B pc = .ok (.ishr, 1)) (hp : pc + 1 = pc')
    (k1 : OF p e below n1 z1 EN Q T (mkF m pc' L (.int (x >>> (y &&& 31)) :: S))) : OF p e below n1 z1 EN Q T (mkF m pc L (.int y :: .int x :: S)) := by
  subst hp; exact OF.step (fun t q => XS.ishr W.here W.hx rfl (hb W.by hd) rfl q) k1
theorem o_iushr {x y : Int32} (W : OW p l e R s m args below meth c Z B ml own nm rt n0 z0 T h kk nn) (hd : decode B pc = .ok (.iushr, 1)) (hp : pc + 1 = pc')
    (k1 : OF p e below n1 z1 EN Q T (mkF m pc' L (.int ((x.toUInt32 >>> (y &&& 31).toUInt32).toInt32) :: S))) : OF p e below n1 z1 EN Q T (mkF m pc L (.int y :: .int x :: S)) := by
  subst hp; exact OF.step (fun t q => XS.iushr W.here W.hx rfl (hb W.by hd) rfl q) k1
theorem o_idiv {x y : Int32} (W : OW p l e R s m args below meth c Z B ml own nm rt n0 z0 T h kk nn) (hd : decode B pc = .ok (.idiv, 1)) (hy : y ≠ 0) (hp : pc + 1 = pc')
    (k1 : OF p e below n1 z1 EN Q T (mkF m pc' L (.int (x / y) :: S))) : OF p e below n1 z1 EN Q T (mkF m pc L (.int y :: .int x :: S)) := by
  subst hp; exact OF.step (fun t q => XS.idiv W.here W.hx rfl (hb W.by hd) rfl hy q) k1
theorem o_irem {x y : Int32} (W : OW p l e R s m args below meth c Z B ml own nm rt n0 z0 T h kk nn) (hd : decode B pc = .ok (.irem, 1)) (hy : y ≠ 0) (hp : pc + 1 = pc')
    (k1 : OF p e below n1 z1 EN Q T (mkF m pc' L (.int (x - (x / y) * y) :: S))) : OF p e below n1 z1 EN Q T (mkF m pc L (.int y :: .int x :: S)) := by
  subst hp; exact OF.step (fun t q => XS.irem W.here W.hx rfl (hb W.by hd) rfl hy q) k1
theorem o_ladd {x y : Int64} (W : OW p l e R s m args below meth c Z B ml own nm rt n0 z0 T h kk nn) (hd : decode B pc = .ok (.ladd, 1)) (hp : pc + 1 = pc')
    (k1 : OF p e below n1 z1 EN Q T (mkF m pc' L (.long (x + y) :: S))) : OF p e below n1 z1 EN Q T (mkF m pc L (.long y :: .long x :: S)) := by
  subst hp; exact OF.step (fun t q => XS.ladd W.here W.hx rfl (hb W.by hd) rfl q) k1
theorem o_lsub {x y : Int64} (W : OW p l e R s m args below meth c Z B ml own nm rt n0 z0 T h kk nn) (hd : decode B pc = .ok (.lsub, 1)) (hp : pc + 1 = pc')
    (k1 : OF p e below n1 z1 EN Q T (mkF m pc' L (.long (x - y) :: S))) : OF p e below n1 z1 EN Q T (mkF m pc L (.long y :: .long x :: S)) := by
  subst hp; exact OF.step (fun t q => XS.lsub W.here W.hx rfl (hb W.by hd) rfl q) k1
theorem o_lmul {x y : Int64} (W : OW p l e R s m args below meth c Z B ml own nm rt n0 z0 T h kk nn) (hd : decode B pc = .ok (.lmul, 1)) (hp : pc + 1 = pc')
    (k1 : OF p e below n1 z1 EN Q T (mkF m pc' L (.long (x * y) :: S))) : OF p e below n1 z1 EN Q T (mkF m pc L (.long y :: .long x :: S)) := by
  subst hp; exact OF.step (fun t q => XS.lmul W.here W.hx rfl (hb W.by hd) rfl q) k1
theorem o_land {x y : Int64} (W : OW p l e R s m args below meth c Z B ml own nm rt n0 z0 T h kk nn) (hd : decode B pc = .ok (.land, 1)) (hp : pc + 1 = pc')
    (k1 : OF p e below n1 z1 EN Q T (mkF m pc' L (.long (x &&& y) :: S))) : OF p e below n1 z1 EN Q T (mkF m pc L (.long y :: .long x :: S)) := by
  subst hp; exact OF.step (fun t q => XS.land W.here W.hx rfl (hb W.by hd) rfl q) k1
theorem o_lor {x y : Int64} (W : OW p l e R s m args below meth c Z B ml own nm rt n0 z0 T h kk nn) (hd : decode B pc = .ok (.lor, 1)) (hp : pc + 1 = pc')
    (k1 : OF p e below n1 z1 EN Q T (mkF m pc' L (.long (x ||| y) :: S))) : OF p e below n1 z1 EN Q T (mkF m pc L (.long y :: .long x :: S)) := by
  subst hp; exact OF.step (fun t q => XS.lor W.here W.hx rfl (hb W.by hd) rfl q) k1
theorem o_lxor {x y : Int64} (W : OW p l e R s m args below meth c Z B ml own nm rt n0 z0 T h kk nn) (hd : decode B pc = .ok (.lxor, 1)) (hp : pc + 1 = pc')
    (k1 : OF p e below n1 z1 EN Q T (mkF m pc' L (.long (x ^^^ y) :: S))) : OF p e below n1 z1 EN Q T (mkF m pc L (.long y :: .long x :: S)) := by
  subst hp; exact OF.step (fun t q => XS.lxor W.here W.hx rfl (hb W.by hd) rfl q) k1
theorem o_ldiv {x y : Int64} (W : OW p l e R s m args below meth c Z B ml own nm rt n0 z0 T h kk nn) (hd : decode B pc = .ok (.ldiv, 1)) (hy : y ≠ 0) (hp : pc + 1 = pc')
    (k1 : OF p e below n1 z1 EN Q T (mkF m pc' L (.long (x / y) :: S))) : OF p e below n1 z1 EN Q T (mkF m pc L (.long y :: .long x :: S)) := by
  subst hp; exact OF.step (fun t q => XS.ldiv W.here W.hx rfl (hb W.by hd) rfl hy q) k1
theorem o_lrem {x y : Int64} (W : OW p l e R s m args below meth c Z B ml own nm rt n0 z0 T h kk nn) (hd : decode B pc = .ok (.lrem, 1)) (hy : y ≠ 0) (hp : pc + 1 = pc')
    (k1 : OF p e below n1 z1 EN Q T (mkF m pc' L (.long (x - (x / y) * y) :: S))) : OF p e below n1 z1 EN Q T (mkF m pc L (.long y :: .long x :: S)) := by
  subst hp; exact OF.step (fun t q => XS.lrem W.here W.hx rfl (hb W.by hd) rfl hy q) k1
theorem o_lshl {x : Int64} {y : Int32} (W : OW p l e R s m args below meth c Z B ml own nm rt n0 z0 T h kk nn) (hd : decode B pc = .ok (.lshl, 1)) (hp : pc + 1 = pc')
    (k1 : OF p e below n1 z1 EN Q T (mkF m pc' L (.long (x <<< (y &&& 0x3f).toInt64) :: S))) : OF p e below n1 z1 EN Q T (mkF m pc L (.int y :: .long x :: S)) := by
  subst hp; exact OF.step (fun t q => XS.lshl W.here W.hx rfl (hb W.by hd) rfl q) k1
theorem o_lshr {x : Int64} {y : Int32} (W : OW p l e R s m args below meth c Z B ml own nm rt n0 z0 T h kk nn) (hd : decode B pc = .ok (.lshr, 1)) (hp : pc + 1 = pc')
    (k1 : OF p e below n1 z1 EN Q T (mkF m pc' L (.long (x >>> (y &&& 0x3f).toInt64) :: S))) : OF p e below n1 z1 EN Q T (mkF m pc L (.int y :: .long x :: S)) := by
  subst hp; exact OF.step (fun t q => XS.lshr W.here W.hx rfl (hb W.by hd) rfl q) k1
theorem o_lushr {x : Int64} {y : Int32} (W : OW p l e R s m args below meth c Z B ml own nm rt n0 z0 T h kk nn) (hd : decode B pc = .ok (.lushr, 1)) (hp : pc + 1 = pc')
    (k1 : OF p e below n1 z1 EN Q T (mkF m pc' L (.long ((x.toUInt64 >>> (y &&& 0x3f).toInt64.toUInt64).toInt64) :: S))) : OF p e below n1 z1 EN Q T (mkF m pc L (.int y :: .long x :: S)) := by
  subst hp; exact OF.step (fun t q => XS.lushr W.here W.hx rfl (hb W.by hd) rfl q) k1
theorem o_i2b {x : Int32} (W : OW p l e R s m args below meth c Z B ml own nm rt n0 z0 T h kk nn) (hd : decode B pc = .ok (.i2b, 1)) (hp : pc + 1 = pc')
    (k1 : OF p e below n1 z1 EN Q T (mkF m pc' L (.int (x.toInt8.toInt32) :: S))) : OF p e below n1 z1 EN Q T (mkF m pc L (.int x :: S)) := by
  subst hp; exact OF.step (fun t q => XS.i2b W.here W.hx rfl (hb W.by hd) rfl q) k1
theorem o_i2c {x : Int32} (W : OW p l e R s m args below meth c Z B ml own nm rt n0 z0 T h kk nn) (hd : decode B pc = .ok (.i2c, 1)) (hp : pc + 1 = pc')
    (k1 : OF p e below n1 z1 EN Q T (mkF m pc' L (.int (x.toUInt32.toUInt16.toUInt32.toInt32) :: S))) : OF p e below n1 z1 EN Q T (mkF m pc L (.int x :: S)) := by
  subst hp; exact OF.step (fun t q => XS.i2c W.here W.hx rfl (hb W.by hd) rfl q) k1
theorem o_i2s {x : Int32} (W : OW p l e R s m args below meth c Z B ml own nm rt n0 z0 T h kk nn) (hd : decode B pc = .ok (.i2s, 1)) (hp : pc + 1 = pc')
    (k1 : OF p e below n1 z1 EN Q T (mkF m pc' L (.int (x.toInt16.toInt32) :: S))) : OF p e below n1 z1 EN Q T (mkF m pc L (.int x :: S)) := by
  subst hp; exact OF.step (fun t q => XS.i2s W.here W.hx rfl (hb W.by hd) rfl q) k1
theorem o_i2l {x : Int32} (W : OW p l e R s m args below meth c Z B ml own nm rt n0 z0 T h kk nn) (hd : decode B pc = .ok (.i2l, 1)) (hp : pc + 1 = pc')
    (k1 : OF p e below n1 z1 EN Q T (mkF m pc' L (.long (x.toInt64) :: S))) : OF p e below n1 z1 EN Q T (mkF m pc L (.int x :: S)) := by
  subst hp; exact OF.step (fun t q => XS.i2l W.here W.hx rfl (hb W.by hd) rfl q) k1
theorem o_l2i {x : Int64} (W : OW p l e R s m args below meth c Z B ml own nm rt n0 z0 T h kk nn) (hd : decode B pc = .ok (.l2i, 1)) (hp : pc + 1 = pc')
    (k1 : OF p e below n1 z1 EN Q T (mkF m pc' L (.int (x.toInt32) :: S))) : OF p e below n1 z1 EN Q T (mkF m pc L (.long x :: S)) := by
  subst hp; exact OF.step (fun t q => XS.l2i W.here W.hx rfl (hb W.by hd) rfl q) k1
theorem o_dup {x : Value} (W : OW p l e R s m args below meth c Z B ml own nm rt n0 z0 T h kk nn) (hd : decode B pc = .ok (.dup, 1)) (hc : x.category = 1) (hp : pc + 1 = pc')
    (k1 : OF p e below n1 z1 EN Q T (mkF m pc' L (x :: x :: S))) : OF p e below n1 z1 EN Q T (mkF m pc L (x :: S)) := by
  subst hp; exact OF.step (fun t q => XS.dup W.here W.hx rfl (hb W.by hd) rfl hc q) k1
theorem o_pop {x : Value} (W : OW p l e R s m args below meth c Z B ml own nm rt n0 z0 T h kk nn) (hd : decode B pc = .ok (.pop, 1)) (hc : x.category = 1) (hp : pc + 1 = pc')
    (k1 : OF p e below n1 z1 EN Q T (mkF m pc' L S)) : OF p e below n1 z1 EN Q T (mkF m pc L (x :: S)) := by
  subst hp; exact OF.step (fun t q => XS.pop W.here W.hx rfl (hb W.by hd) rfl hc q) k1
theorem o_dup2 {x y : Value} (W : OW p l e R s m args below meth c Z B ml own nm rt n0 z0 T h kk nn) (hd : decode B pc = .ok (.dup2, 1)) (hc : x.category = 1) (hc' : y.category = 1) (hp : pc + 1 = pc')
    (k1 : OF p e below n1 z1 EN Q T (mkF m pc' L (x :: y :: x :: y :: S))) : OF p e below n1 z1 EN Q T (mkF m pc L (x :: y :: S)) := by
  subst hp; exact OF.step (fun t q => XT.dup2 W.here W.hx rfl (hb W.by hd) rfl hc hc' q) k1
theorem o_iinc {i : Nat} {z : Int} {x : Int32} (W : OW p l e R s m args below meth c Z B ml own nm rt n0 z0 T h kk nn) (hd : decode B pc = .ok (.iinc i z, 3)) (hl : L[i]? = some (.val (.int x))) (hl' : storeLocals L i (.int (x + Int32.ofInt z)) = some L') (hp : pc + 3 = pc')
    (k1 : OF p e below n1 z1 EN Q T (mkF m pc' L' S)) : OF p e below n1 z1 EN Q T (mkF m pc L S) := by
  subst hp; exact OF.step (fun t q => XS.iinc W.here W.hx rfl (hb W.by hd) hl hl' q) k1
theorem o_goto {o : Int} (W : OW p l e R s m args below meth c Z B ml own nm rt n0 z0 T h kk nn) (hd : decode B pc = .ok (.goto o, 3)) (ho : 0 ≤ (pc : Int) + o) (hq : ((pc : Int) + o).toNat = pq)
    (k1 : OF p e below n1 z1 EN Q T (mkF m pq L S)) : OF p e below n1 z1 EN Q T (mkF m pc L S) := OF.step (fun t q => XS.goto W.here W.hx rfl rfl (hb W.by hd) ho hq q) k1
theorem o_lt {x y : Int32} (q : x.toInt < y.toInt) : x < y := Int32.lt_iff_toInt_lt.mpr q
theorem o_nlt {x y : Int32} (q : y.toInt ≤ x.toInt) : ¬ x < y := fun z => by rw [Int32.lt_iff_toInt_lt] at z; omega
theorem o_eq {x y : Int32} (q : x.toInt = y.toInt) : x = y := Int32.toInt_inj.mp q
theorem o_ne {x y : Int32} (q : ¬ x.toInt = y.toInt) : ¬ x = y := fun z => q (congrArg Int32.toInt z)
theorem o_zero : (0 : Int32).toInt = 0 := rfl
theorem o_llt {x y : Int64} (q : x.toInt < y.toInt) : x < y := Int64.lt_iff_toInt_lt.mpr q
theorem o_nllt {x y : Int64} (q : y.toInt ≤ x.toInt) : ¬ x < y := fun z => by rw [Int64.lt_iff_toInt_lt] at z; omega
theorem o_leq {x y : Int64} (q : x.toInt = y.toInt) : x = y := Int64.toInt_inj.mp q
theorem o_lne {x y : Int64} (q : ¬ x.toInt = y.toInt) : ¬ x = y := fun z => q (congrArg Int64.toInt z)
theorem o_icmp_lt {x y : Int32} {o : Int} (W : OW p l e R s m args below meth c Z B ml own nm rt n0 z0 T h kk nn) (hd : decode B pc = .ok (.if_icmp .lt o, 3)) (ho : 0 ≤ (pc : Int) + o) (hq : ((pc : Int) + o).toNat = pq) (hp : pc + 3 = pc')
    (ky : x.toInt < y.toInt → OF p e below n1 z1 EN Q T (mkF m pq L S)) (kn : y.toInt ≤ x.toInt → OF p e below n1 z1 EN Q T (mkF m pc' L S)) : OF p e below n1 z1 EN Q T (mkF m pc L (.int y :: .int x :: S)) := by
  subst hp
  rcases Int.lt_or_le (x.toInt) (y.toInt) with q | q
  · exact OF.step (fun t z => XS.icmpYes W.here W.hx rfl rfl (hb W.by hd) rfl (tlt (o_lt q)).1 ho hq z) (ky q)
  · exact OF.step (fun t z => XS.icmpNo W.here W.hx rfl (hb W.by hd) rfl (flt (o_nlt q)).1 z) (kn q)
theorem o_icmp_ge {x y : Int32} {o : Int} (W : OW p l e R s m args below meth c Z B ml own nm rt n0 z0 T h kk nn) (hd : decode B pc = .ok (.if_icmp .ge o, 3)) (ho : 0 ≤ (pc : Int) + o) (hq : ((pc : Int) + o).toNat = pq) (hp : pc + 3 = pc')
    (ky : y.toInt ≤ x.toInt → OF p e below n1 z1 EN Q T (mkF m pq L S)) (kn : x.toInt < y.toInt → OF p e below n1 z1 EN Q T (mkF m pc' L S)) : OF p e below n1 z1 EN Q T (mkF m pc L (.int y :: .int x :: S)) := by
  subst hp
  rcases (Int.lt_or_le (x.toInt) (y.toInt)).symm with q | q
  · exact OF.step (fun t z => XS.icmpYes W.here W.hx rfl rfl (hb W.by hd) rfl (flt (o_nlt q)).2.1 ho hq z) (ky q)
  · exact OF.step (fun t z => XS.icmpNo W.here W.hx rfl (hb W.by hd) rfl (tlt (o_lt q)).2.1 z) (kn q)
theorem o_icmp_gt {x y : Int32} {o : Int} (W : OW p l e R s m args below meth c Z B ml own nm rt n0 z0 T h kk nn) (hd : decode B pc = .ok (.if_icmp .gt o, 3)) (ho : 0 ≤ (pc : Int) + o) (hq : ((pc : Int) + o).toNat = pq) (hp : pc + 3 = pc')
    (ky : y.toInt < x.toInt → OF p e below n1 z1 EN Q T (mkF m pq L S)) (kn : x.toInt ≤ y.toInt → OF p e below n1 z1 EN Q T (mkF m pc' L S)) : OF p e below n1 z1 EN Q T (mkF m pc L (.int y :: .int x :: S)) := by
  subst hp
  rcases Int.lt_or_le (y.toInt) (x.toInt) with q | q
  · exact OF.step (fun t z => XS.icmpYes W.here W.hx rfl rfl (hb W.by hd) rfl (tlt (o_lt q)).2.2.1 ho hq z) (ky q)
  · exact OF.step (fun t z => XS.icmpNo W.here W.hx rfl (hb W.by hd) rfl (flt (o_nlt q)).2.2.1 z) (kn q)
theorem o_icmp_le {x y : Int32} {o : Int} (W : OW p l e R s m args below meth c Z B ml own nm rt n0 z0 T h kk nn) (hd : decode B pc = .ok (.if_icmp .le o, 3)) (ho : 0 ≤ (pc : Int) + o) (hq : ((pc : Int) + o).toNat = pq) (hp : pc + 3 = pc')
    (ky : x.toInt ≤ y.toInt → OF p e below n1 z1 EN Q T (mkF m pq L S)) (kn : y.toInt < x.toInt → OF p e below n1 z1 EN Q T (mkF m pc' L S)) : OF p e below n1 z1 EN Q T (mkF m pc L (.int y :: .int x :: S)) := by
  subst hp
  rcases (Int.lt_or_le (y.toInt) (x.toInt)).symm with q | q
  · exact OF.step (fun t z => XS.icmpYes W.here W.hx rfl rfl (hb W.by hd) rfl (flt (o_nlt q)).2.2.2 ho hq z) (ky q)
  · exact OF.step (fun t z => XS.icmpNo W.here W.hx rfl (hb W.by hd) rfl (tlt (o_lt q)).2.2.2 z) (kn q)
theorem o_icmp_eq {x y : Int32} {o : Int} (W : OW p l e R s m args below meth c Z B ml own nm rt n0 z0 T h kk nn) (hd : decode B pc = .ok (.if_icmp .eq o, 3)) (ho : 0 ≤ (pc : Int) + o) (hq : ((pc : Int) + o).toNat = pq) (hp : pc + 3 = pc')
    (ky : x.toInt = y.toInt → OF p e below n1 z1 EN Q T (mkF m pq L S)) (kn : ¬ x.toInt = y.toInt → OF p e below n1 z1 EN Q T (mkF m pc' L S)) : OF p e below n1 z1 EN Q T (mkF m pc L (.int y :: .int x :: S)) := by
  subst hp
  rcases Decidable.em (x.toInt = y.toInt) with q | q
  · exact OF.step (fun t z => XS.icmpYes W.here W.hx rfl rfl (hb W.by hd) rfl (teq (o_eq q)).1 ho hq z) (ky q)
  · exact OF.step (fun t z => XS.icmpNo W.here W.hx rfl (hb W.by hd) rfl (feq (o_ne q)).1 z) (kn q)
theorem o_icmp_ne {x y : Int32} {o : Int} (W : OW p l e R s m args below meth c Z B ml own nm rt n0 z0 T h kk nn) (hd : decode B pc = .ok (.if_icmp .ne o, 3)) (ho : 0 ≤ (pc : Int) + o) (hq : ((pc : Int) + o).toNat = pq) (hp : pc + 3 = pc')
    (ky : ¬ x.toInt = y.toInt → OF p e below n1 z1 EN Q T (mkF m pq L S)) (kn : x.toInt = y.toInt → OF p e below n1 z1 EN Q T (mkF m pc' L S)) : OF p e below n1 z1 EN Q T (mkF m pc L (.int y :: .int x :: S)) := by
  subst hp
  rcases (Decidable.em (x.toInt = y.toInt)).symm with q | q
  · exact OF.step (fun t z => XS.icmpYes W.here W.hx rfl rfl (hb W.by hd) rfl (feq (o_ne q)).2 ho hq z) (ky q)
  · exact OF.step (fun t z => XS.icmpNo W.here W.hx rfl (hb W.by hd) rfl (teq (o_eq q)).2 z) (kn q)
theorem o_if_lt {x : Int32} {o : Int} (W : OW p l e R s m args below meth c Z B ml own nm rt n0 z0 T h kk nn) (hd : decode B pc = .ok (.ifCond .lt o, 3)) (ho : 0 ≤ (pc : Int) + o) (hq : ((pc : Int) + o).toNat = pq) (hp : pc + 3 = pc')
    (ky : x.toInt < 0 → OF p e below n1 z1 EN Q T (mkF m pq L S)) (kn : 0 ≤ x.toInt → OF p e below n1 z1 EN Q T (mkF m pc' L S)) : OF p e below n1 z1 EN Q T (mkF m pc L (.int x :: S)) := by
  subst hp
  rcases Int.lt_or_le (x.toInt) (0) with q | q
  · exact OF.step (fun t z => XS.ifYes W.here W.hx rfl rfl (hb W.by hd) rfl ((if0 _ _).trans (tlt (o_lt (x := x) (y := 0) q)).1) ho hq z) (ky q)
  · exact OF.step (fun t z => XS.ifNo W.here W.hx rfl (hb W.by hd) rfl ((if0 _ _).trans (flt (o_nlt (x := x) (y := 0) q)).1) z) (kn q)
theorem o_if_ge {x : Int32} {o : Int} (W : OW p l e R s m args below meth c Z B ml own nm rt n0 z0 T h kk nn) (hd : decode B pc = .ok (.ifCond .ge o, 3)) (ho : 0 ≤ (pc : Int) + o) (hq : ((pc : Int) + o).toNat = pq) (hp : pc + 3 = pc')
    (ky : 0 ≤ x.toInt → OF p e below n1 z1 EN Q T (mkF m pq L S)) (kn : x.toInt < 0 → OF p e below n1 z1 EN Q T (mkF m pc' L S)) : OF p e below n1 z1 EN Q T (mkF m pc L (.int x :: S)) := by
  subst hp
  rcases (Int.lt_or_le (x.toInt) (0)).symm with q | q
  · exact OF.step (fun t z => XS.ifYes W.here W.hx rfl rfl (hb W.by hd) rfl ((if0 _ _).trans (flt (o_nlt (x := x) (y := 0) q)).2.1) ho hq z) (ky q)
  · exact OF.step (fun t z => XS.ifNo W.here W.hx rfl (hb W.by hd) rfl ((if0 _ _).trans (tlt (o_lt (x := x) (y := 0) q)).2.1) z) (kn q)
theorem o_if_gt {x : Int32} {o : Int} (W : OW p l e R s m args below meth c Z B ml own nm rt n0 z0 T h kk nn) (hd : decode B pc = .ok (.ifCond .gt o, 3)) (ho : 0 ≤ (pc : Int) + o) (hq : ((pc : Int) + o).toNat = pq) (hp : pc + 3 = pc')
    (ky : 0 < x.toInt → OF p e below n1 z1 EN Q T (mkF m pq L S)) (kn : x.toInt ≤ 0 → OF p e below n1 z1 EN Q T (mkF m pc' L S)) : OF p e below n1 z1 EN Q T (mkF m pc L (.int x :: S)) := by
  subst hp
  rcases Int.lt_or_le (0) (x.toInt) with q | q
  · exact OF.step (fun t z => XS.ifYes W.here W.hx rfl rfl (hb W.by hd) rfl ((if0 _ _).trans (tlt (o_lt (x := 0) (y := x) q)).2.2.1) ho hq z) (ky q)
  · exact OF.step (fun t z => XS.ifNo W.here W.hx rfl (hb W.by hd) rfl ((if0 _ _).trans (flt (o_nlt (x := 0) (y := x) q)).2.2.1) z) (kn q)
theorem o_if_le {x : Int32} {o : Int} (W : OW p l e R s m args below meth c Z B ml own nm rt n0 z0 T h kk nn) (hd : decode B pc = .ok (.ifCond .le o, 3)) (ho : 0 ≤ (pc : Int) + o) (hq : ((pc : Int) + o).toNat = pq) (hp : pc + 3 = pc')
    (ky : x.toInt ≤ 0 → OF p e below n1 z1 EN Q T (mkF m pq L S)) (kn : 0 < x.toInt → OF p e below n1 z1 EN Q T (mkF m pc' L S)) : OF p e below n1 z1 EN Q T (mkF m pc L (.int x :: S)) := by
  subst hp
  rcases (Int.lt_or_le (0) (x.toInt)).symm with q | q
  · exact OF.step (fun t z => XS.ifYes W.here W.hx rfl rfl (hb W.by hd) rfl ((if0 _ _).trans (flt (o_nlt (x := 0) (y := x) q)).2.2.2) ho hq z) (ky q)
  · exact OF.step (fun t z => XS.ifNo W.here W.hx rfl (hb W.by hd) rfl ((if0 _ _).trans (tlt (o_lt (x := 0) (y := x) q)).2.2.2) z) (kn q)
theorem o_if_eq {x : Int32} {o : Int} (W : OW p l e R s m args below meth c Z B ml own nm rt n0 z0 T h kk nn) (hd : decode B pc = .ok (.ifCond .eq o, 3)) (ho : 0 ≤ (pc : Int) + o) (hq : ((pc : Int) + o).toNat = pq) (hp : pc + 3 = pc')
    (ky : x.toInt = 0 → OF p e below n1 z1 EN Q T (mkF m pq L S)) (kn : ¬ x.toInt = 0 → OF p e below n1 z1 EN Q T (mkF m pc' L S)) : OF p e below n1 z1 EN Q T (mkF m pc L (.int x :: S)) := by
  subst hp
  rcases Decidable.em (x.toInt = 0) with q | q
  · exact OF.step (fun t z => XS.ifYes W.here W.hx rfl rfl (hb W.by hd) rfl ((if0 _ _).trans (teq (o_eq (x := x) (y := 0) q)).1) ho hq z) (ky q)
  · exact OF.step (fun t z => XS.ifNo W.here W.hx rfl (hb W.by hd) rfl ((if0 _ _).trans (feq (o_ne (x := x) (y := 0) q)).1) z) (kn q)
theorem o_if_ne {x : Int32} {o : Int} (W : OW p l e R s m args below meth c Z B ml own nm rt n0 z0 T h kk nn) (hd : decode B pc = .ok (.ifCond .ne o, 3)) (ho : 0 ≤ (pc : Int) + o) (hq : ((pc : Int) + o).toNat = pq) (hp : pc + 3 = pc')
    (ky : ¬ x.toInt = 0 → OF p e below n1 z1 EN Q T (mkF m pq L S)) (kn : x.toInt = 0 → OF p e below n1 z1 EN Q T (mkF m pc' L S)) : OF p e below n1 z1 EN Q T (mkF m pc L (.int x :: S)) := by
  subst hp
  rcases (Decidable.em (x.toInt = 0)).symm with q | q
  · exact OF.step (fun t z => XS.ifYes W.here W.hx rfl rfl (hb W.by hd) rfl ((if0 _ _).trans (feq (o_ne (x := x) (y := 0) q)).2) ho hq z) (ky q)
  · exact OF.step (fun t z => XS.ifNo W.here W.hx rfl (hb W.by hd) rfl ((if0 _ _).trans (teq (o_eq (x := x) (y := 0) q)).2) z) (kn q)
theorem o_lcmp_lt {x y : Int64} {o : Int} {pc1 : Nat} (W : OW p l e R s m args below meth c Z B ml own nm rt n0 z0 T h kk nn) (hd : decode B pc = .ok (.lcmp, 1)) (h1 : pc + 1 = pc1) (hd2 : decode B pc1 = .ok (.ifCond .lt o, 3)) (ho : 0 ≤ (pc1 : Int) + o) (hq : ((pc1 : Int) + o).toNat = pq) (hp : pc1 + 3 = pc')
    (ky : x.toInt < y.toInt → OF p e below n1 z1 EN Q T (mkF m pq L S)) (kn : y.toInt ≤ x.toInt → OF p e below n1 z1 EN Q T (mkF m pc' L S)) : OF p e below n1 z1 EN Q T (mkF m pc L (.long y :: .long x :: S)) := by
  subst h1; subst hp
  refine OF.step (T' := T) (f' := mkF m (pc + 1) L (.int (lcmpW x y) :: S)) (fun t z => XS.lcmp W.here W.hx rfl (hb W.by hd) rfl z) ?_
  rcases Int.lt_or_le (x.toInt) (y.toInt) with q | q
  · exact OF.step (fun t z => XS.ifYes W.here W.hx rfl rfl (hb W.by hd2) rfl ((if0 _ _).trans (tlt ((lw_lt x y).mpr (o_llt q))).1) ho hq z) (ky q)
  · exact OF.step (fun t z => XS.ifNo W.here W.hx rfl (hb W.by hd2) rfl ((if0 _ _).trans (flt (fun z => o_nllt q ((lw_lt x y).mp z))).1) z) (kn q)
theorem o_lcmp_ge {x y : Int64} {o : Int} {pc1 : Nat} (W : OW p l e R s m args below meth c Z B ml own nm rt n0 z0 T h kk nn) (hd : decode B pc = .ok (.lcmp, 1)) (h1 : pc + 1 = pc1) (hd2 : decode B pc1 = .ok (.ifCond .ge o, 3)) (ho : 0 ≤ (pc1 : Int) + o) (hq : ((pc1 : Int) + o).toNat = pq) (hp : pc1 + 3 = pc')
    (ky : y.toInt ≤ x.toInt → OF p e below n1 z1 EN Q T (mkF m pq L S)) (kn : x.toInt < y.toInt → OF p e below n1 z1 EN Q T (mkF m pc' L S)) : OF p e below n1 z1 EN Q T (mkF m pc L (.long y :: .long x :: S)) := by
  subst h1; subst hp
  refine OF.step (T' := T) (f' := mkF m (pc + 1) L (.int (lcmpW x y) :: S)) (fun t z => XS.lcmp W.here W.hx rfl (hb W.by hd) rfl z) ?_
  rcases (Int.lt_or_le (x.toInt) (y.toInt)).symm with q | q
  · exact OF.step (fun t z => XS.ifYes W.here W.hx rfl rfl (hb W.by hd2) rfl ((if0 _ _).trans (flt (fun z => o_nllt q ((lw_lt x y).mp z))).2.1) ho hq z) (ky q)
  · exact OF.step (fun t z => XS.ifNo W.here W.hx rfl (hb W.by hd2) rfl ((if0 _ _).trans (tlt ((lw_lt x y).mpr (o_llt q))).2.1) z) (kn q)
theorem o_lcmp_gt {x y : Int64} {o : Int} {pc1 : Nat} (W : OW p l e R s m args below meth c Z B ml own nm rt n0 z0 T h kk nn) (hd : decode B pc = .ok (.lcmp, 1)) (h1 : pc + 1 = pc1) (hd2 : decode B pc1 = .ok (.ifCond .gt o, 3)) (ho : 0 ≤ (pc1 : Int) + o) (hq : ((pc1 : Int) + o).toNat = pq) (hp : pc1 + 3 = pc')
    (ky : y.toInt < x.toInt → OF p e below n1 z1 EN Q T (mkF m pq L S)) (kn : x.toInt ≤ y.toInt → OF p e below n1 z1 EN Q T (mkF m pc' L S)) : OF p e below n1 z1 EN Q T (mkF m pc L (.long y :: .long x :: S)) := by
  subst h1; subst hp
  refine OF.step (T' := T) (f' := mkF m (pc + 1) L (.int (lcmpW x y) :: S)) (fun t z => XS.lcmp W.here W.hx rfl (hb W.by hd) rfl z) ?_
  rcases Int.lt_or_le (y.toInt) (x.toInt) with q | q
  · exact OF.step (fun t z => XS.ifYes W.here W.hx rfl rfl (hb W.by hd2) rfl ((if0 _ _).trans (tlt ((lw_gt x y).mpr (o_llt q))).2.2.1) ho hq z) (ky q)
  · exact OF.step (fun t z => XS.ifNo W.here W.hx rfl (hb W.by hd2) rfl ((if0 _ _).trans (flt (fun z => o_nllt q ((lw_gt x y).mp z))).2.2.1) z) (kn q)
theorem o_lcmp_le {x y : Int64} {o : Int} {pc1 : Nat} (W : OW p l e R s m args below meth c Z B ml own nm rt n0 z0 T h kk nn) (hd : decode B pc = .ok (.lcmp, 1)) (h1 : pc + 1 = pc1) (hd2 : decode B pc1 = .ok (.ifCond .le o, 3)) (ho : 0 ≤ (pc1 : Int) + o) (hq : ((pc1 : Int) + o).toNat = pq) (hp : pc1 + 3 = pc')
    (ky : x.toInt ≤ y.toInt → OF p e below n1 z1 EN Q T (mkF m pq L S)) (kn : y.toInt < x.toInt → OF p e below n1 z1 EN Q T (mkF m pc' L S)) : OF p e below n1 z1 EN Q T (mkF m pc L (.long y :: .long x :: S)) := by
  subst h1; subst hp
  refine OF.step (T' := T) (f' := mkF m (pc + 1) L (.int (lcmpW x y) :: S)) (fun t z => XS.lcmp W.here W.hx rfl (hb W.by hd) rfl z) ?_
  rcases (Int.lt_or_le (y.toInt) (x.toInt)).symm with q | q
  · exact OF.step (fun t z => XS.ifYes W.here W.hx rfl rfl (hb W.by hd2) rfl ((if0 _ _).trans (flt (fun z => o_nllt q ((lw_gt x y).mp z))).2.2.2) ho hq z) (ky q)
  · exact OF.step (fun t z => XS.ifNo W.here W.hx rfl (hb W.by hd2) rfl ((if0 _ _).trans (tlt ((lw_gt x y).mpr (o_llt q))).2.2.2) z) (kn q)
theorem o_lcmp_eq {x y : Int64} {o : Int} {pc1 : Nat} (W : OW p l e R s m args below meth c Z B ml own nm rt n0 z0 T h kk nn) (hd : decode B pc = .ok (.lcmp, 1)) (h1 : pc + 1 = pc1) (hd2 : decode B pc1 = .ok (.ifCond .eq o, 3)) (ho : 0 ≤ (pc1 : Int) + o) (hq : ((pc1 : Int) + o).toNat = pq) (hp : pc1 + 3 = pc')
    (ky : x.toInt = y.toInt → OF p e below n1 z1 EN Q T (mkF m pq L S)) (kn : ¬ x.toInt = y.toInt → OF p e below n1 z1 EN Q T (mkF m pc' L S)) : OF p e below n1 z1 EN Q T (mkF m pc L (.long y :: .long x :: S)) := by
  subst h1; subst hp
  refine OF.step (T' := T) (f' := mkF m (pc + 1) L (.int (lcmpW x y) :: S)) (fun t z => XS.lcmp W.here W.hx rfl (hb W.by hd) rfl z) ?_
  rcases Decidable.em (x.toInt = y.toInt) with q | q
  · exact OF.step (fun t z => XS.ifYes W.here W.hx rfl rfl (hb W.by hd2) rfl ((if0 _ _).trans (teq ((lw_eq x y).mpr (o_leq q))).1) ho hq z) (ky q)
  · exact OF.step (fun t z => XS.ifNo W.here W.hx rfl (hb W.by hd2) rfl ((if0 _ _).trans (feq (fun z => o_lne q ((lw_eq x y).mp z))).1) z) (kn q)
theorem o_lcmp_ne {x y : Int64} {o : Int} {pc1 : Nat} (W : OW p l e R s m args below meth c Z B ml own nm rt n0 z0 T h kk nn) (hd : decode B pc = .ok (.lcmp, 1)) (h1 : pc + 1 = pc1) (hd2 : decode B pc1 = .ok (.ifCond .ne o, 3)) (ho : 0 ≤ (pc1 : Int) + o) (hq : ((pc1 : Int) + o).toNat = pq) (hp : pc1 + 3 = pc')
    (ky : ¬ x.toInt = y.toInt → OF p e below n1 z1 EN Q T (mkF m pq L S)) (kn : x.toInt = y.toInt → OF p e below n1 z1 EN Q T (mkF m pc' L S)) : OF p e below n1 z1 EN Q T (mkF m pc L (.long y :: .long x :: S)) := by
  subst h1; subst hp
  refine OF.step (T' := T) (f' := mkF m (pc + 1) L (.int (lcmpW x y) :: S)) (fun t z => XS.lcmp W.here W.hx rfl (hb W.by hd) rfl z) ?_
  rcases (Decidable.em (x.toInt = y.toInt)).symm with q | q
  · exact OF.step (fun t z => XS.ifYes W.here W.hx rfl rfl (hb W.by hd2) rfl ((if0 _ _).trans (feq (fun z => o_lne q ((lw_eq x y).mp z))).2) ho hq z) (ky q)
  · exact OF.step (fun t z => XS.ifNo W.here W.hx rfl (hb W.by hd2) rfl ((if0 _ _).trans (teq ((lw_eq x y).mpr (o_leq q))).2) z) (kn q)
abbrev QI (P : Int32 → Heap → Prop) : Option Value → Heap → Prop := fun v h => ∃ r, v = some (.int r) ∧ P r h
abbrev QJ (P : Int64 → Heap → Prop) : Option Value → Heap → Prop := fun v h => ∃ r, v = some (.long r) ∧ P r h
abbrev QA (P : Addr → Heap → Prop) : Option Value → Heap → Prop := fun v h => ∃ r, v = some (.ref r) ∧ P r h
abbrev QV (P : Heap → Prop) : Option Value → Heap → Prop := fun v h => v = none ∧ P h
theorem o_retN {t : FieldType} {z : Int32} (W : OW p l e R s m args below meth c Z B ml own nm rt n0 z0 T h kk nn) (hrt : rt = some t) (ht : t = .boolean ∨ t = .byte ∨ t = .char ∨ t = .short) (hd : decode B pc = .ok (.ireturn, 1)) (hk : kk ≤ kc) (hn : nn ≤ ns) (hQ : Q (some (.int (nar t z))) h) :
    OF p e below n0 z0 (ENn s kc ns) Q T (mkF m pc L (.int z :: S)) := by
  obtain ⟨⟨hx, hZ, hby, hml, hown, hnm, hr, hlk⟩, hz, hz', rfl, locs, X, N⟩ := W
  subst hrt
  obtain ⟨fs, hl, h1, h2, h3, h4⟩ := X.leave (v := some (.int (nar t z))) (fun q => by rw [hr] at q; cases q) hlk
  exact ⟨_, _, retN X hx hr ht (hb hby hd) hl, h1, h2, _, _, rfl, ⟨hQ, hz', N⟩, ⟨_, rfl⟩, h3, h4.mono hk hn⟩
theorem o_retI {z : Int32} (W : OW p l e R s m args below meth c Z B ml own nm rt n0 z0 T h kk nn) (hrt : rt = some .int) (hd : decode B pc = .ok (.ireturn, 1)) (hk : kk ≤ kc) (hn : nn ≤ ns) (hQ : Q (some (.int z)) h) :
    OF p e below n0 z0 (ENn s kc ns) Q T (mkF m pc L (.int z :: S)) := by
  obtain ⟨⟨hx, hZ, hby, hml, hown, hnm, hr, hlk⟩, hz, hz', rfl, locs, X, N⟩ := W
  subst hrt
  obtain ⟨fs, hl, h1, h2, h3, h4⟩ := X.leave (v := some (.int z)) (fun q => by rw [hr] at q; cases q) hlk
  exact ⟨_, _, retOut X hx hr rfl (Or.inl ⟨rfl, Or.inl rfl, _, rfl⟩) (hb hby hd) hl, h1, h2, _, _, rfl, ⟨hQ, hz', N⟩, ⟨_, rfl⟩, h3, h4.mono hk hn⟩
theorem o_retJ {z : Int64} (W : OW p l e R s m args below meth c Z B ml own nm rt n0 z0 T h kk nn) (hrt : rt = some .long) (hd : decode B pc = .ok (.lreturn, 1)) (hk : kk ≤ kc) (hn : nn ≤ ns) (hQ : Q (some (.long z)) h) :
    OF p e below n0 z0 (ENn s kc ns) Q T (mkF m pc L (.long z :: S)) := by
  obtain ⟨⟨hx, hZ, hby, hml, hown, hnm, hr, hlk⟩, hz, hz', rfl, locs, X, N⟩ := W
  subst hrt
  obtain ⟨fs, hl, h1, h2, h3, h4⟩ := X.leave (v := some (.long z)) (fun q => by rw [hr] at q; cases q) hlk
  exact ⟨_, _, retOut X hx hr rfl (Or.inr (Or.inl ⟨rfl, rfl, _, rfl⟩)) (hb hby hd) hl, h1, h2, _, _, rfl, ⟨hQ, hz', N⟩, ⟨_, rfl⟩, h3, h4.mono hk hn⟩
theorem o_retA {t : FieldType} {z : Value} (W : OW p l e R s m args below meth c Z B ml own nm rt n0 z0 T h kk nn) (hrt : rt = some t) (ht : t.isReference = true) (hv : z.isRef = true) (hnz : narrow t z = z) (hd : decode B pc = .ok (.areturn, 1)) (hk : kk ≤ kc) (hn : nn ≤ ns) (hQ : Q (some z) h) :
    OF p e below n0 z0 (ENn s kc ns) Q T (mkF m pc L (z :: S)) := by
  obtain ⟨⟨hx, hZ, hby, hml, hown, hnm, hr, hlk⟩, hz, hz', rfl, locs, X, N⟩ := W
  subst hrt
  obtain ⟨fs, hl, h1, h2, h3, h4⟩ := X.leave (v := some z) (fun q => by rw [hr] at q; cases q) hlk
  exact ⟨_, _, retOut X hx hr hnz (Or.inr (Or.inr (Or.inr (Or.inr ⟨rfl, ht, hv⟩)))) (hb hby hd) hl, h1, h2, _, _, rfl, ⟨hQ, hz', N⟩, ⟨_, rfl⟩, h3, h4.mono hk hn⟩
theorem o_retV (W : OW p l e R s m args below meth c Z B ml own nm rt n0 z0 T h kk nn) (hrt : rt = none) (hd : decode B pc = .ok (.return_, 1)) (hk : kk ≤ kc) (hn : nn ≤ ns) (hQ : Q none h) :
    OF p e below n0 z0 (ENn s kc ns) Q T (mkF m pc L []) := by
  obtain ⟨⟨hx, hZ, hby, hml, hown, hnm, hr, hlk⟩, hz, hz', rfl, locs, X, N⟩ := W
  subst hrt
  obtain ⟨fs, hl, h1, h2, h3, h4⟩ := X.leave (v := none) (fun _ => rfl) hlk
  exact ⟨_, _, X.returnOut hx hr (hb hby hd) hl, h1, h2, _, _, rfl, ⟨hQ, hz', N⟩, ⟨_, rfl⟩, h3, h4.mono hk hn⟩
/-- a body's contract: called with 'as' at the heap h0 it returns what Q says -/
def OCon (l : Launch) (Z : State) (y : MethodName) (B : ByteArray) (ml : Nat) (rt : Option FieldType) (ws : List Jvm.Cond) (rm : Room) (as : Array Value) (h0 : Heap) (n0 : Nat) (Q : Option Value → Heap → Prop) : Prop :=
  MetFree l y (head1 (Jvm.Cond.code y B ml rt :: ws) rm) (fun a U => a = as ∧ Z.Warmed39 U.vm ∧ U.heap = h0) (fun _ _ _ _ _ => True)
    (fun _ U o U' => ∃ v L, o = .returned v ∧ OQ Q h0.size n0 v U'.heap L ∧ FrameEnd U o U' L rm.cells rm.slots)
theorem OCon.mk {y : MethodName} {ws : List Jvm.Cond} {rm : Room} {as : Array Value} {h0 : Heap} (hpl : plainFor y = true) (hz : n0 ≤ h0.size)
    (body : ∀ (p : Program) (e : Env) (s : State) (m : MethodId) (below : List Frame) (meth : Method) (c : Code) (s₁ : State), OW p l e rm s m as below meth c Z B ml y.cls y.name rt n0 h0.size s₁ h0 0 0 → OF p e below n0 h0.size (ENn s rm.cells rm.slots) Q s₁ (entryFrame m as ml)) :
    OCon l Z y B ml rt ws rm as h0 n0 Q := by
  refine MetFree.of_bodySF hpl hisR ?_
  intro p e s m args below meth c s₁ Bd hml0 hP hK
  obtain ⟨rfl, hZ, hh⟩ := hP
  exact body p e s m below meth c s₁ ⟨⟨Bd.exec, hZ, Bd.bytes, hml0, findClass_of_methodNamed Bd.named, (name_of_methodNamed Bd.named Bd.method).1, Bd.returns, Bd.notSynchronized⟩, hz, Nat.le_refl _, by rw [← hh, Bd.state]; rfl, [], Stand.of_body Bd, Fr.nil _⟩
theorem o_callS {index : Nat} {y : MethodName} {B' : ByteArray} {ml' wt : Nat} {rt' : Option FieldType} {rm : Room} {as : Array Value} {Q' : Option Value → Heap → Prop} {argsL : List Value} {st : List Value} (W : OW p l e R s m args below meth c Z B ml own nm rt n0 z0 T h kk nn)
    (C : OCon l Z y B' ml' rt' [] rm as h n0 Q') (w1 : (Jvm.Cond.methodLink own index y).before a0 Z = true) (w2 : (Jvm.Cond.static y).before a0 Z = true) (w3 : (Jvm.Cond.initialized y.cls).before a0 Z = true) (w4 : (Jvm.Cond.code y B' ml' rt').before a0 Z = true)
    (hy : y.cls ≠ "java/lang/invoke/MethodHandle" ∧ y.cls ≠ "java/lang/invoke/VarHandle") (hlen : ∀ sig, parseMethodDescriptor y.desc = some sig → argsL.length = sig.parameters.length) (has : argsL.toArray = as) (hst : st = argsL.reverse ++ S) (hL : L.size = ml)
    (hwt : (S.map fun v => v.category).sum = wt) (hfr : rm.frames + 1 ≤ R.frames) (hlo : wt + (ml' + 11) + rm.locals ≤ R.locals) (hcl : kk + rm.cells ≤ R.cells) (hsl : nn + rm.slots ≤ R.slots) (hk' : kk + rm.cells = kk') (hn' : nn + rm.slots = nn')
    (hd : decode B pc = .ok (.invokestatic index, 3)) (hp : pc + 3 = pc')
    (k1 : ∀ v T' h', OW p l e R s m args below meth c Z B ml own nm rt n0 z0 T' h' kk' nn' → Q' v h' → h.size ≤ h'.size → OF p e below n1 z1 EN Q T' (mkF m pc' L (v.toList ++ S))) : OF p e below n1 z1 EN Q T (mkF m pc L st) := by
  subst hp has hk' hn' hst
  obtain ⟨cx, hz, hz', eT, locs, X, N⟩ := W
  obtain ⟨hx, hZ, hby, hml, hown, hnm, hr, hlk⟩ := cx
  obtain ⟨v, _, ⟨T', L2, k2, n2⟩, -, X2, ⟨Lc, hQ, l2, y2, z2⟩, st2⟩ := Jvm.LawKit.callS X hx (y := y) hown (mvT hZ w1) (mvT hZ w2) (mvT hZ w3) (mvT hZ w4) hy (backOf (W := wt) (Q := OQ Q' h.size n0) C hZ w4 w3 hfr hlo) (g := mkF m pc L (argsL.reverse ++ S)) rfl (hL.trans hml.symm) (argsL := argsL) (rest := S) hlen rfl
    (by show 2 * 0 + _ ≤ _; rw [hwt]; omega) (hb hby hd) (fun _ _ => ⟨rfl, eT, hcl, hsl⟩)
  dsimp only [Pt.U, Pt.locs, Pt.cells, Pt.slots] at X2 l2 y2 z2 st2 hQ
  subst l2 y2 z2
  obtain ⟨q1, q2, q3⟩ := hQ
  exact OF.step (fun t z => st2 t z) (k1 v T' T'.heap ⟨⟨hx, hZ, hby, hml, hown, hnm, hr, hlk⟩, hz, Nat.le_trans hz' q2, rfl, _, X2, Fr.app N q3⟩ q1 q2)
theorem o_callSI {index : Nat} {y : MethodName} {B' : ByteArray} {ml' wt : Nat} {rt' : Option FieldType} {rm : Room} {as : Array Value} {P' : Int32 → Heap → Prop} {argsL : List Value} {st : List Value} (W : OW p l e R s m args below meth c Z B ml own nm rt n0 z0 T h kk nn)
    (C : OCon l Z y B' ml' rt' [] rm as h n0 (QI P')) (w1 : (Jvm.Cond.methodLink own index y).before a0 Z = true) (w2 : (Jvm.Cond.static y).before a0 Z = true) (w3 : (Jvm.Cond.initialized y.cls).before a0 Z = true) (w4 : (Jvm.Cond.code y B' ml' rt').before a0 Z = true)
    (hy : y.cls ≠ "java/lang/invoke/MethodHandle" ∧ y.cls ≠ "java/lang/invoke/VarHandle") (hlen : ∀ sig, parseMethodDescriptor y.desc = some sig → argsL.length = sig.parameters.length) (has : argsL.toArray = as) (hst : st = argsL.reverse ++ S) (hL : L.size = ml)
    (hwt : (S.map fun v => v.category).sum = wt) (hfr : rm.frames + 1 ≤ R.frames) (hlo : wt + (ml' + 11) + rm.locals ≤ R.locals) (hcl : kk + rm.cells ≤ R.cells) (hsl : nn + rm.slots ≤ R.slots) (hk' : kk + rm.cells = kk') (hn' : nn + rm.slots = nn')
    (hd : decode B pc = .ok (.invokestatic index, 3)) (hp : pc + 3 = pc')
    (k1 : ∀ r T' h', OW p l e R s m args below meth c Z B ml own nm rt n0 z0 T' h' kk' nn' → P' r h' → h.size ≤ h'.size → OF p e below n1 z1 EN Q T' (mkF m pc' L (.int r :: S))) : OF p e below n1 z1 EN Q T (mkF m pc L st) :=
  o_callS W C w1 w2 w3 w4 hy hlen has hst hL hwt hfr hlo hcl hsl hk' hn' hd hp (fun v T' h' W' q z => by
    obtain ⟨r, rfl, q⟩ := q
    exact k1 r T' h' W' q z)
theorem o_callSJ {index : Nat} {y : MethodName} {B' : ByteArray} {ml' wt : Nat} {rt' : Option FieldType} {rm : Room} {as : Array Value} {P' : Int64 → Heap → Prop} {argsL : List Value} {st : List Value} (W : OW p l e R s m args below meth c Z B ml own nm rt n0 z0 T h kk nn)
    (C : OCon l Z y B' ml' rt' [] rm as h n0 (QJ P')) (w1 : (Jvm.Cond.methodLink own index y).before a0 Z = true) (w2 : (Jvm.Cond.static y).before a0 Z = true) (w3 : (Jvm.Cond.initialized y.cls).before a0 Z = true) (w4 : (Jvm.Cond.code y B' ml' rt').before a0 Z = true)
    (hy : y.cls ≠ "java/lang/invoke/MethodHandle" ∧ y.cls ≠ "java/lang/invoke/VarHandle") (hlen : ∀ sig, parseMethodDescriptor y.desc = some sig → argsL.length = sig.parameters.length) (has : argsL.toArray = as) (hst : st = argsL.reverse ++ S) (hL : L.size = ml)
    (hwt : (S.map fun v => v.category).sum = wt) (hfr : rm.frames + 1 ≤ R.frames) (hlo : wt + (ml' + 11) + rm.locals ≤ R.locals) (hcl : kk + rm.cells ≤ R.cells) (hsl : nn + rm.slots ≤ R.slots) (hk' : kk + rm.cells = kk') (hn' : nn + rm.slots = nn')
    (hd : decode B pc = .ok (.invokestatic index, 3)) (hp : pc + 3 = pc')
    (k1 : ∀ r T' h', OW p l e R s m args below meth c Z B ml own nm rt n0 z0 T' h' kk' nn' → P' r h' → h.size ≤ h'.size → OF p e below n1 z1 EN Q T' (mkF m pc' L (.long r :: S))) : OF p e below n1 z1 EN Q T (mkF m pc L st) :=
  o_callS W C w1 w2 w3 w4 hy hlen has hst hL hwt hfr hlo hcl hsl hk' hn' hd hp (fun v T' h' W' q z => by
    obtain ⟨r, rfl, q⟩ := q
    exact k1 r T' h' W' q z)
theorem o_callSA {index : Nat} {y : MethodName} {B' : ByteArray} {ml' wt : Nat} {rt' : Option FieldType} {rm : Room} {as : Array Value} {P' : Addr → Heap → Prop} {argsL : List Value} {st : List Value} (W : OW p l e R s m args below meth c Z B ml own nm rt n0 z0 T h kk nn)
    (C : OCon l Z y B' ml' rt' [] rm as h n0 (QA P')) (w1 : (Jvm.Cond.methodLink own index y).before a0 Z = true) (w2 : (Jvm.Cond.static y).before a0 Z = true) (w3 : (Jvm.Cond.initialized y.cls).before a0 Z = true) (w4 : (Jvm.Cond.code y B' ml' rt').before a0 Z = true)
    (hy : y.cls ≠ "java/lang/invoke/MethodHandle" ∧ y.cls ≠ "java/lang/invoke/VarHandle") (hlen : ∀ sig, parseMethodDescriptor y.desc = some sig → argsL.length = sig.parameters.length) (has : argsL.toArray = as) (hst : st = argsL.reverse ++ S) (hL : L.size = ml)
    (hwt : (S.map fun v => v.category).sum = wt) (hfr : rm.frames + 1 ≤ R.frames) (hlo : wt + (ml' + 11) + rm.locals ≤ R.locals) (hcl : kk + rm.cells ≤ R.cells) (hsl : nn + rm.slots ≤ R.slots) (hk' : kk + rm.cells = kk') (hn' : nn + rm.slots = nn')
    (hd : decode B pc = .ok (.invokestatic index, 3)) (hp : pc + 3 = pc')
    (k1 : ∀ r T' h', OW p l e R s m args below meth c Z B ml own nm rt n0 z0 T' h' kk' nn' → P' r h' → h.size ≤ h'.size → OF p e below n1 z1 EN Q T' (mkF m pc' L (.ref r :: S))) : OF p e below n1 z1 EN Q T (mkF m pc L st) :=
  o_callS W C w1 w2 w3 w4 hy hlen has hst hL hwt hfr hlo hcl hsl hk' hn' hd hp (fun v T' h' W' q z => by
    obtain ⟨r, rfl, q⟩ := q
    exact k1 r T' h' W' q z)
/-- an array of ints, bytes or chars at a, with these components -/
def OA (Z : State) (h : Heap) (a : Addr) (ty : FieldType) (xs : List Int32) : Prop := xs.length < 2 ^ 31 ∧ (∀ x ∈ xs, fits ty (.int x) = true) ∧ ∃ cl : Cell, Arr Z h a cl ty ∧ cl.slots = (xs.map Value.int).toArray
theorem OA.lt {a : Addr} {ty : FieldType} {xs : List Int32} (A : OA Z h a ty xs) : a < h.size := by obtain ⟨_, _, _, A, _⟩ := A; exact A.lt
theorem OA.ext {a : Addr} {ty : FieldType} {xs : List Int32} (A : OA Z h a ty xs) (E : Ext h h') : OA Z h' a ty xs := by obtain ⟨q1, q2, cl, A, q3⟩ := A; exact ⟨q1, q2, cl, A.ext E, q3⟩
theorem OA.keep {a : Addr} {ty : FieldType} {xs : List Int32} {ws : List Addr} (A : OA Z h a ty xs) (K : Keep h h' ws) (q : a ∉ ws) : OA Z h' a ty xs := by obtain ⟨q1, q2, cl, A, q3⟩ := A; exact ⟨q1, q2, cl, ⟨K.2.1 a cl A.1 q, A.2⟩, q3⟩
theorem OA.keep1 {a b : Addr} {ty : FieldType} {xs : List Int32} (A : OA Z h a ty xs) (K : Keep h h' [b]) (q : a ≠ b) : OA Z h' a ty xs := A.keep K (by simpa using q)
theorem OA.len {a : Addr} {ty : FieldType} {xs : List Int32} (A : OA Z h a ty xs) : xs.length < 2 ^ 31 := A.1
theorem o_tn (x : Int32) : x.toNatClampNeg = x.toInt.toNat := rfl
theorem o_nat {j : Int32} {i : Nat} (q : j.toInt = i) : j.toNatClampNeg = i := by rw [o_tn, q]; exact Int.toNat_natCast i
theorem o_in {j : Int32} {i : Nat} {xs : List Int32} {cl : Cell} (hi : j.toInt = i) (hs : cl.slots = (xs.map Value.int).toArray) (q : i < xs.length) : ¬ (j < 0 ∨ cl.slots.size ≤ j.toNatClampNeg) := by
  rw [o_nat hi, hs]; simp only [List.size_toArray, List.length_map, Int32.lt_iff_toInt_lt, hi, o_zero]; omega
theorem o_newarray {aty : ArrayType} {ty : FieldType} {v : Int32} {len cap : Nat} (W : OW p l e R s m args below meth c Z B ml own nm rt n0 z0 T h kk nn) (w : (Jvm.Cond.arrayClass ty).before a0 Z = true) (hty : newarray.typeOf aty = ty) (hdv : defaultValue ty = .int 0) (hft : fits ty (.int 0) = true) (hd : decode B pc = .ok (.newarray aty, 2)) (hp : pc + 2 = pc')
    (hv : v.toInt = len) (hlc : len ≤ cap) (hcap : cap * 8 ≤ 536870912) (hc : kk + 1 ≤ R.cells) (hl : nn + cap ≤ R.slots) (hk' : kk + 1 = kk') (hn' : nn + cap = nn')
    (k1 : ∀ T' h' a, OW p l e R s m args below meth c Z B ml own nm rt n0 z0 T' h' kk' nn' → Ext h h' → a = h.size → OA Z h' a ty (List.replicate len 0) → OF p e below n1 z1 EN Q T' (mkF m pc' L (.ref a :: S))) : OF p e below n1 z1 EN Q T (mkF m pc L (.int v :: S)) := by
  subst hp hk' hn' hty
  obtain ⟨cx, hz, hz', eT, locs, X, N⟩ := W
  obtain ⟨hx, hZ, hby, hml, hown, hnm, hr, hlk⟩ := cx
  obtain ⟨T', h', cA, X', e', E, A, st⟩ := newP X hx hZ w eT (g := mkF m pc L (.int v :: S)) rfl (hb hby hd) rfl (o_nlt (by rw [hv, o_zero]; omega)) (cap := cap) (by rw [o_nat hv]; exact hlc) hcap hc hl
  refine OF.step (fun t z => st t z) (k1 T' h' h.size ⟨⟨hx, hZ, hby, hml, hown, hnm, hr, hlk⟩, hz, Nat.le_trans hz' E.1, e', _, X', N⟩ E rfl ⟨by rw [List.length_replicate]; omega, fun x hx => by rw [List.mem_replicate] at hx; rw [hx.2]; exact hft, _, A, ?_⟩)
  simp [newA, hdv, o_nat hv]
theorem o_iaload {a : Addr} {xs : List Int32} {j v : Int32} {i : Nat} (W : OW p l e R s m args below meth c Z B ml own nm rt n0 z0 T h kk nn) (A : OA Z h a .int xs) (hd : decode B pc = .ok (.iaload, 1)) (hp : pc + 1 = pc') (hi : j.toInt = i) (hv : xs[i]? = some v)
    (k1 : OF p e below n1 z1 EN Q T (mkF m pc' L (.int v :: S))) : OF p e below n1 z1 EN Q T (mkF m pc L (.int j :: .ref a :: S)) := by
  subst hp
  obtain ⟨cx, hz, hz', eT, locs, X, N⟩ := W
  obtain ⟨hx, hZ, hby, hml, hown, hnm, hr, hlk⟩ := cx
  obtain ⟨q1, q2, cl, A, q3⟩ := A
  have hlt : i < xs.length := (List.getElem?_eq_some_iff.mp hv).1
  exact OF.step (fun t z => X.iaload hx (j := j) (v := .int v) (by rw [eT]; exact A.1) (State.isArrayOf_alike hZ.alike A.2.1) A.2.2 (o_in hi q3 hlt) (by rw [o_nat hi, q3]; simp [hv]) (g := mkF m pc L (.int j :: .ref a :: S)) rfl rfl (hb hby hd) t z) k1
theorem o_baload {a : Addr} {xs : List Int32} {j v : Int32} {i : Nat} (W : OW p l e R s m args below meth c Z B ml own nm rt n0 z0 T h kk nn) (A : OA Z h a .byte xs) (hd : decode B pc = .ok (.baload, 1)) (hp : pc + 1 = pc') (hi : j.toInt = i) (hv : xs[i]? = some v)
    (k1 : OF p e below n1 z1 EN Q T (mkF m pc' L (.int v :: S))) : OF p e below n1 z1 EN Q T (mkF m pc L (.int j :: .ref a :: S)) := by
  subst hp
  obtain ⟨cx, hz, hz', eT, locs, X, N⟩ := W
  obtain ⟨hx, hZ, hby, hml, hown, hnm, hr, hlk⟩ := cx
  obtain ⟨q1, q2, cl, A, q3⟩ := A
  have hlt : i < xs.length := (List.getElem?_eq_some_iff.mp hv).1
  exact OF.step (fun t z => X.baloadBytes hx (j := j) (v := .int v) (by rw [eT]; exact A.1) (State.isArrayOf_alike hZ.alike A.2.1) A.2.2 (o_in hi q3 hlt) (by rw [o_nat hi, q3]; simp [hv]) (g := mkF m pc L (.int j :: .ref a :: S)) rfl rfl (hb hby hd) t z) k1
theorem o_caload {a : Addr} {xs : List Int32} {j v : Int32} {i : Nat} (W : OW p l e R s m args below meth c Z B ml own nm rt n0 z0 T h kk nn) (A : OA Z h a .char xs) (hd : decode B pc = .ok (.caload, 1)) (hp : pc + 1 = pc') (hi : j.toInt = i) (hv : xs[i]? = some v)
    (k1 : OF p e below n1 z1 EN Q T (mkF m pc' L (.int v :: S))) : OF p e below n1 z1 EN Q T (mkF m pc L (.int j :: .ref a :: S)) := by
  subst hp
  obtain ⟨cx, hz, hz', eT, locs, X, N⟩ := W
  obtain ⟨hx, hZ, hby, hml, hown, hnm, hr, hlk⟩ := cx
  obtain ⟨q1, q2, cl, A, q3⟩ := A
  have hlt : i < xs.length := (List.getElem?_eq_some_iff.mp hv).1
  exact OF.step (fun t z => X.caload hx (j := j) (v := .int v) (by rw [eT]; exact A.1) (State.isArrayOf_alike hZ.alike A.2.1) A.2.2 (o_in hi q3 hlt) (by rw [o_nat hi, q3]; simp [hv]) (g := mkF m pc L (.int j :: .ref a :: S)) rfl rfl (hb hby hd) t z) k1
theorem o_iastore {a : Addr} {xs : List Int32} {j x : Int32} {i : Nat} (W : OW p l e R s m args below meth c Z B ml own nm rt n0 z0 T h kk nn) (A : OA Z h a .int xs) (ha : n0 ≤ a) (hd : decode B pc = .ok (.iastore, 1)) (hp : pc + 1 = pc') (hi : j.toInt = i) (hlt : i < xs.length)
    (k1 : ∀ T' h', OW p l e R s m args below meth c Z B ml own nm rt n0 z0 T' h' kk nn → Keep h h' [a] → OA Z h' a .int (xs.set i (x)) → OF p e below n1 z1 EN Q T' (mkF m pc' L S)) : OF p e below n1 z1 EN Q T (mkF m pc L (.int x :: .int j :: .ref a :: S)) := by
  subst hp
  obtain ⟨cx, hz, hz', eT, locs, X, N⟩ := W
  obtain ⟨hx, hZ, hby, hml, hown, hnm, hr, hlk⟩ := cx
  obtain ⟨q1, q2, cl, A, q3⟩ := A
  obtain ⟨T', h', X', e', Wr', st⟩ := stI X hx hZ eT A (j := j) (x := x) (o_in hi q3 hlt) (g := mkF m pc L (.int x :: .int j :: .ref a :: S)) rfl rfl (hb hby hd)
  have Wr' : Wr h h' a j.toNatClampNeg (.int (x)) := Wr'
  refine OF.step (fun t z => st t z) (k1 T' h' ⟨⟨hx, hZ, hby, hml, hown, hnm, hr, hlk⟩, hz, Nat.le_trans hz' (Nat.le_of_eq Wr'.size.symm), e', _, X', Fr.snoc X' N ha⟩ (Keep.of_wr Wr') ⟨by rw [List.length_set]; exact q1, fun y hy => ?_, _, A.same Wr', ?_⟩)
  · rcases List.mem_or_eq_of_mem_set hy with hy | rfl
    · exact q2 y hy
    · exact rfl
  · rw [o_nat hi]; simp [Cell.setSlot, q3, List.map_set]; try rfl
theorem o_bastore {a : Addr} {xs : List Int32} {j x : Int32} {i : Nat} (W : OW p l e R s m args below meth c Z B ml own nm rt n0 z0 T h kk nn) (A : OA Z h a .byte xs) (ha : n0 ≤ a) (hd : decode B pc = .ok (.bastore, 1)) (hp : pc + 1 = pc') (hi : j.toInt = i) (hlt : i < xs.length)
    (k1 : ∀ T' h', OW p l e R s m args below meth c Z B ml own nm rt n0 z0 T' h' kk nn → Keep h h' [a] → OA Z h' a .byte (xs.set i (x.toInt8.toInt32)) → OF p e below n1 z1 EN Q T' (mkF m pc' L S)) : OF p e below n1 z1 EN Q T (mkF m pc L (.int x :: .int j :: .ref a :: S)) := by
  subst hp
  obtain ⟨cx, hz, hz', eT, locs, X, N⟩ := W
  obtain ⟨hx, hZ, hby, hml, hown, hnm, hr, hlk⟩ := cx
  obtain ⟨q1, q2, cl, A, q3⟩ := A
  obtain ⟨T', h', X', e', Wr', st⟩ := stB X hx hZ eT A (j := j) (x := x) (o_in hi q3 hlt) (g := mkF m pc L (.int x :: .int j :: .ref a :: S)) rfl rfl (hb hby hd)
  have Wr' : Wr h h' a j.toNatClampNeg (.int (x.toInt8.toInt32)) := Wr'
  refine OF.step (fun t z => st t z) (k1 T' h' ⟨⟨hx, hZ, hby, hml, hown, hnm, hr, hlk⟩, hz, Nat.le_trans hz' (Nat.le_of_eq Wr'.size.symm), e', _, X', Fr.snoc X' N ha⟩ (Keep.of_wr Wr') ⟨by rw [List.length_set]; exact q1, fun y hy => ?_, _, A.same Wr', ?_⟩)
  · rcases List.mem_or_eq_of_mem_set hy with hy | rfl
    · exact q2 y hy
    · exact fits_nar_byte x
  · rw [o_nat hi]; simp [Cell.setSlot, q3, List.map_set]; try rfl
theorem o_castore {a : Addr} {xs : List Int32} {j x : Int32} {i : Nat} (W : OW p l e R s m args below meth c Z B ml own nm rt n0 z0 T h kk nn) (A : OA Z h a .char xs) (ha : n0 ≤ a) (hd : decode B pc = .ok (.castore, 1)) (hp : pc + 1 = pc') (hi : j.toInt = i) (hlt : i < xs.length)
    (k1 : ∀ T' h', OW p l e R s m args below meth c Z B ml own nm rt n0 z0 T' h' kk nn → Keep h h' [a] → OA Z h' a .char (xs.set i (x.toUInt32.toUInt16.toUInt32.toInt32)) → OF p e below n1 z1 EN Q T' (mkF m pc' L S)) : OF p e below n1 z1 EN Q T (mkF m pc L (.int x :: .int j :: .ref a :: S)) := by
  subst hp
  obtain ⟨cx, hz, hz', eT, locs, X, N⟩ := W
  obtain ⟨hx, hZ, hby, hml, hown, hnm, hr, hlk⟩ := cx
  obtain ⟨q1, q2, cl, A, q3⟩ := A
  obtain ⟨T', h', X', e', Wr', st⟩ := stC X hx hZ eT A (j := j) (x := x) (o_in hi q3 hlt) (g := mkF m pc L (.int x :: .int j :: .ref a :: S)) rfl rfl (hb hby hd)
  have Wr' : Wr h h' a j.toNatClampNeg (.int (x.toUInt32.toUInt16.toUInt32.toInt32)) := Wr'
  refine OF.step (fun t z => st t z) (k1 T' h' ⟨⟨hx, hZ, hby, hml, hown, hnm, hr, hlk⟩, hz, Nat.le_trans hz' (Nat.le_of_eq Wr'.size.symm), e', _, X', Fr.snoc X' N ha⟩ (Keep.of_wr Wr') ⟨by rw [List.length_set]; exact q1, fun y hy => ?_, _, A.same Wr', ?_⟩)
  · rcases List.mem_or_eq_of_mem_set hy with hy | rfl
    · exact q2 y hy
    · exact fits_nar_char x
  · rw [o_nat hi]; simp [Cell.setSlot, q3, List.map_set]; try rfl
theorem o_arraylength {a : Addr} {ty : FieldType} {xs : List Int32} (W : OW p l e R s m args below meth c Z B ml own nm rt n0 z0 T h kk nn) (A : OA Z h a ty xs) (hd : decode B pc = .ok (.arraylength, 1)) (hp : pc + 1 = pc')
    (k1 : ∀ v : Int32, v.toInt = xs.length → OF p e below n1 z1 EN Q T (mkF m pc' L (.int v :: S))) : OF p e below n1 z1 EN Q T (mkF m pc L (.ref a :: S)) := by
  subst hp
  obtain ⟨cx, hz, hz', eT, locs, X, N⟩ := W
  obtain ⟨hx, hZ, hby, hml, hown, hnm, hr, hlk⟩ := cx
  obtain ⟨q1, q2, cl, A, q3⟩ := A
  have hs : cl.slots.size = xs.length := by rw [q3]; simp
  exact OF.step (fun t z => X.arraylength hx (by rw [eT]; exact A.1) (State.isArrayOf_alike hZ.alike A.2.1) (g := mkF m pc L (.ref a :: S)) rfl rfl (hb hby hd) t z) (k1 cl.slots.size.toInt32 (by rw [hs]; exact len_toInt q1))
theorem OF.join {α : Type} (Jn : α → Prop) (Tf : α → State) (fr : α → JFrame) {f : JFrame} (k1 : ∀ v, Jn v → OF p e below n1 z1 EN Q (Tf v) (fr v)) (k2 : (∀ v, Jn v → OF p e below n1 z1 EN Q (Tf v) (fr v)) → OF p e below n1 z1 EN Q T f) : OF p e below n1 z1 EN Q T f := k2 k1
theorem OF.loop {α : Type} (mu : α → Nat) (Jn : α → Prop) (Tf : α → State) (fr : α → JFrame) (k1 : ∀ v, Jn v → (∀ v', Jn v' → mu v' < mu v → OF p e below n1 z1 EN Q (Tf v') (fr v')) → OF p e below n1 z1 EN Q (Tf v) (fr v)) (v0 : α) (hv0 : Jn v0) : OF p e below n1 z1 EN Q (Tf v0) (fr v0) := by
  have key : ∀ n v, mu v < n → Jn v → OF p e below n1 z1 EN Q (Tf v) (fr v) := by
    intro n
    induction n with
    | zero => intro v hn; omega
    | succ n ih => intro v hn hv; exact k1 v hv (fun v' hv' hlt => ih v' (by omega) hv')
  exact key _ v0 (Nat.lt_succ_self _) hv0
theorem o_new {index n : Nat} {C : String} (W : OW p l e R s m args below meth c Z B ml own nm rt n0 z0 T h kk nn) (w : (Jvm.Cond.classLink own index C).before a0 Z = true) (wi : (Jvm.Cond.instantiable C n).before a0 Z = true) (wz : (Jvm.Cond.initialized C).before a0 Z = true) (hd : decode B pc = .ok (.new index, 3)) (hp : pc + 3 = pc')
    (hc : kk + 1 ≤ R.cells) (hl : nn + n ≤ R.slots) (hk' : kk + 1 = kk') (hn' : nn + n = nn')
    (k1 : ∀ T' h' a, OW p l e R s m args below meth c Z B ml own nm rt n0 z0 T' h' kk' nn' → Ext h h' → a = h.size → Exa Z h' a C → (∀ {O nm d : String} {ty : FieldType}, Laid Z a0 C O nm d → parseFieldDescriptor d = some ty → Fld Z h' a O nm d (defaultValue ty)) → OF p e below n1 z1 EN Q T' (mkF m pc' L (.ref a :: S))) : OF p e below n1 z1 EN Q T (mkF m pc L S) := by
  subst hp hk' hn'
  obtain ⟨cx, hz, hz', eT, locs, X, N⟩ := W
  obtain ⟨hx, hZ, hby, hml, hown, hnm, hr, hlk⟩ := cx
  obtain ⟨T', h', X', e', E, A, D, -, st⟩ := newO X hx hZ hown w wi wz eT (g := mkF m pc L S) rfl (hb hby hd) hc hl
  exact OF.step (fun t z => st t z) (k1 T' h' h.size ⟨⟨hx, hZ, hby, hml, hown, hnm, hr, hlk⟩, hz, Nat.le_trans hz' E.1, e', _, X', N⟩ E rfl A D)
theorem o_getF {index : Nat} {O f d : String} {a : Addr} {v : Value} (W : OW p l e R s m args below meth c Z B ml own nm rt n0 z0 T h kk nn) (w : (Jvm.Cond.fieldLink own index O f d).before a0 Z = true) (Fl : Fld Z h a O f d v) (hd : decode B pc = .ok (.getfield index, 3)) (hp : pc + 3 = pc')
    (k1 : ∀ T', OW p l e R s m args below meth c Z B ml own nm rt n0 z0 T' h kk nn → OF p e below n1 z1 EN Q T' (mkF m pc' L (v :: S))) : OF p e below n1 z1 EN Q T (mkF m pc L (.ref a :: S)) := by
  subst hp
  obtain ⟨cx, hz, hz', eT, locs, X, N⟩ := W
  obtain ⟨hx, hZ, hby, hml, hown, hnm, hr, hlk⟩ := cx
  obtain ⟨T', X', e', st⟩ := getF X hx hZ hown (host := "") (Or.inl w) Via.refl eT Fl (g := mkF m pc L (.ref a :: S)) rfl rfl (hb hby hd)
  exact OF.step (fun t z => st t z) (k1 T' ⟨⟨hx, hZ, hby, hml, hown, hnm, hr, hlk⟩, hz, hz', e', _, X', N⟩)
theorem o_putF {index kz : Nat} {O f d C : String} {a : Addr} {v v' old : Value} {ty : FieldType} (W : OW p l e R s m args below meth c Z B ml own nm rt n0 z0 T h kk nn) (w : (Jvm.Cond.fieldLink own index O f d).before a0 Z = true) (Fl : Fld Z h a O f d old) (E : Exa Z h a C) (Ly : (Jvm.Cond.lays C O f d).before a0 Z = true ∨ ((Jvm.Cond.laysFinal C O f d).before a0 Z = true ∧ own = O ∧ nm = "<init>")) (wi : (Jvm.Cond.instantiable C kz).before a0 Z = true)
    (hty : parseFieldDescriptor d = some ty) (hnw : narrow ty v = v') (hf : fits ty v' = true) (ha : n0 ≤ a) (hd : decode B pc = .ok (.putfield index, 3)) (hp : pc + 3 = pc')
    (k1 : ∀ T' h', OW p l e R s m args below meth c Z B ml own nm rt n0 z0 T' h' kk nn → Wr h h' a (Jvm.RoadKit.slotOf Z O f d) v' → OF p e below n1 z1 EN Q T' (mkF m pc' L S)) : OF p e below n1 z1 EN Q T (mkF m pc L (v :: .ref a :: S)) := by
  subst hp
  obtain ⟨cx, hz, hz', eT, locs, X, N⟩ := W
  obtain ⟨hx, hZ, hby, hml, hown, hnm, hr, hlk⟩ := cx
  obtain ⟨T', h', X', e', Wr', st⟩ := putFN X hx hZ hown w Via.refl eT Fl E (Ly.imp id (fun q => ⟨q.1, q.2.1, hnm.trans q.2.2⟩)) wi hty hnw hf (g := mkF m pc L (v :: .ref a :: S)) rfl rfl (hb hby hd)
  exact OF.step (fun t z => st t z) (k1 T' h' ⟨⟨hx, hZ, hby, hml, hown, hnm, hr, hlk⟩, hz, Nat.le_trans hz' (Nat.le_of_eq Wr'.size.symm), e', _, X', Fr.snoc X' N ha⟩ Wr')
theorem o_initO {index wt : Nat} {a : Addr} (W : OW p l e R s m args below meth c Z B ml own nm rt n0 z0 T h kk nn) (w1 : (Jvm.Cond.methodLink own index Lib.objectInit).before a0 Z = true) (w2 : (Jvm.Cond.instanceMethod Lib.objectInit).before a0 Z = true) (w3 : (Jvm.Cond.code Lib.objectInit ⟨#[0xb1]⟩ 1 none).before a0 Z = true)
    (hL : L.size = ml) (hwt : (S.map fun v => v.category).sum = wt) (hfr : 1 ≤ R.frames) (hlo : wt + 12 ≤ R.locals) (hd : decode B pc = .ok (.invokespecial index, 3)) (hp : pc + 3 = pc')
    (k1 : ∀ T', OW p l e R s m args below meth c Z B ml own nm rt n0 z0 T' h kk nn → OF p e below n1 z1 EN Q T' (mkF m pc' L S)) : OF p e below n1 z1 EN Q T (mkF m pc L (.ref a :: S)) := by
  subst hp
  obtain ⟨cx, hz, hz', eT, locs, X, N⟩ := W
  obtain ⟨hx, hZ, hby, hml, hown, hnm, hr, hlk⟩ := cx
  obtain ⟨T', X', e', st⟩ := initO X hx hZ hown w1 w2 w3 eT (g := mkF m pc L (.ref a :: S)) rfl (hL.trans hml.symm) rfl (hb hby hd) hfr (W := wt) (by show 2 * 0 + _ ≤ _; rw [hwt]; omega) hlo
  exact OF.step (fun t z => st t z) (k1 T' ⟨⟨hx, hZ, hby, hml, hown, hnm, hr, hlk⟩, hz, hz', e', _, X', N⟩)
theorem o_callC {index : Nat} {y : MethodName} {B' : ByteArray} {ml' wt : Nat} {rm : Room} {as : Array Value} {P' : Heap → Prop} {a : Addr} {argsL : List Value} {st : List Value} (W : OW p l e R s m args below meth c Z B ml own nm rt n0 z0 T h kk nn)
    (C : OCon l Z y B' ml' none [] rm as h n0 (QV P')) (hy1 : y.name = "<init>") (w1 : (Jvm.Cond.methodLink own index y).before a0 Z = true) (w2 : (Jvm.Cond.instanceMethod y).before a0 Z = true) (w3 : (Jvm.Cond.initialized y.cls).before a0 Z = true) (w4 : (Jvm.Cond.code y B' ml' none).before a0 Z = true)
    (hy : y.cls ≠ "java/lang/invoke/MethodHandle" ∧ y.cls ≠ "java/lang/invoke/VarHandle") (hlen : ∀ sig, parseMethodDescriptor y.desc = some sig → argsL.length = sig.parameters.length) (has : (.ref a :: argsL).toArray = as) (hst : st = argsL.reverse ++ .ref a :: S) (hL : L.size = ml)
    (hwt : (S.map fun v => v.category).sum = wt) (hfr : rm.frames + 1 ≤ R.frames) (hlo : wt + (ml' + 11) + rm.locals ≤ R.locals) (hcl : kk + rm.cells ≤ R.cells) (hsl : nn + rm.slots ≤ R.slots) (hk' : kk + rm.cells = kk') (hn' : nn + rm.slots = nn')
    (hd : decode B pc = .ok (.invokespecial index, 3)) (hp : pc + 3 = pc')
    (k1 : ∀ T' h', OW p l e R s m args below meth c Z B ml own nm rt n0 z0 T' h' kk' nn' → P' h' → h.size ≤ h'.size → OF p e below n1 z1 EN Q T' (mkF m pc' L S)) : OF p e below n1 z1 EN Q T (mkF m pc L st) := by
  subst hp has hk' hn' hst
  obtain ⟨cx, hz, hz', eT, locs, X, N⟩ := W
  obtain ⟨hx, hZ, hby, hml, hown, hnm, hr, hlk⟩ := cx
  obtain ⟨v, _, ⟨T', L2, k2, n2⟩, -, X2, ⟨Lc, hQ, l2, y2, z2⟩, st2⟩ := X.specialBack hx (y := y) hy1 hown (mvT hZ w1) (mvT hZ w2) (mvT hZ w4) hy (backOf (W := wt) (Q := OQ (QV P') h.size n0) C hZ w4 w3 hfr hlo) (g := mkF m pc L (argsL.reverse ++ .ref a :: S)) rfl (hL.trans hml.symm) (Steps.refl _) (a := a) (argsL := argsL) (rest := S) hlen rfl
    (by show 2 * 0 + _ ≤ _; rw [hwt]; omega) (hb hby hd) (fun _ _ => ⟨rfl, eT, hcl, hsl⟩)
  dsimp only [Pt.U, Pt.locs, Pt.cells, Pt.slots] at X2 l2 y2 z2 st2 hQ
  subst l2 y2 z2
  obtain ⟨⟨rfl, q1⟩, q2, q3⟩ := hQ
  exact OF.step (fun t z => st2.trans z) (k1 T' T'.heap ⟨⟨hx, hZ, hby, hml, hown, hnm, hr, hlk⟩, hz, Nat.le_trans hz' q2, rfl, _, X2, Fr.app N q3⟩ q1 q2)
theorem o_callV {index : Nat} {y z : MethodName} {K : String} {B' : ByteArray} {ml' wt : Nat} {rt' : Option FieldType} {rm : Room} {as : Array Value} {Q' : Option Value → Heap → Prop} {a : Addr} {argsL : List Value} {st : List Value} (W : OW p l e R s m args below meth c Z B ml own nm rt n0 z0 T h kk nn)
    (E : Exa Z h a K) (C : OCon l Z z B' ml' rt' [] rm as h n0 Q') (w1 : (Jvm.Cond.methodLink own index y).before a0 Z = true) (w2 : (Jvm.Cond.declares y).before a0 Z = true) (w5 : NotFace s y) (w6 : (Jvm.Cond.selects K y z).before a0 Z = true) (w7 : (Jvm.Cond.instanceMethod z).before a0 Z = true) (w3 : (Jvm.Cond.initialized z.cls).before a0 Z = true) (w4 : (Jvm.Cond.code z B' ml' rt').before a0 Z = true)
    (hy : y.cls ≠ "java/lang/invoke/MethodHandle" ∧ y.cls ≠ "java/lang/invoke/VarHandle") (hlen : ∀ sig, parseMethodDescriptor y.desc = some sig → argsL.length = sig.parameters.length) (has : (.ref a :: argsL).toArray = as) (hst : st = argsL.reverse ++ .ref a :: S) (hL : L.size = ml)
    (hwt : (S.map fun v => v.category).sum = wt) (hfr : rm.frames + 1 ≤ R.frames) (hlo : wt + (ml' + 11) + rm.locals ≤ R.locals) (hcl : kk + rm.cells ≤ R.cells) (hsl : nn + rm.slots ≤ R.slots) (hk' : kk + rm.cells = kk') (hn' : nn + rm.slots = nn')
    (hd : decode B pc = .ok (.invokevirtual index, 3)) (hp : pc + 3 = pc')
    (k1 : ∀ v T' h', OW p l e R s m args below meth c Z B ml own nm rt n0 z0 T' h' kk' nn' → Q' v h' → h.size ≤ h'.size → OF p e below n1 z1 EN Q T' (mkF m pc' L (v.toList ++ S))) : OF p e below n1 z1 EN Q T (mkF m pc L st) := by
  subst hp has hk' hn' hst
  obtain ⟨cx, hz, hz', eT, locs, X, N⟩ := W
  obtain ⟨hx, hZ, hby, hml, hown, hnm, hr, hlk⟩ := cx
  obtain ⟨cq, kq, qa, qb, qc⟩ := isOf hZ eT E
  obtain ⟨v, _, ⟨T', L2, k2, n2⟩, -, X2, ⟨Lc, hQ, l2, y2, z2⟩, st2⟩ := X.virtualBack hx (y := y) (z := z) hown (mvT hZ w1) (mvT hZ w2) w5 (mvT hZ w6) (mvT hZ w7) hy (backOf (W := wt) (Q := OQ Q' h.size n0) C hZ w4 w3 hfr hlo) qa qc (g := mkF m pc L (argsL.reverse ++ .ref a :: S)) rfl (hL.trans hml.symm) (Steps.refl _) (argsL := argsL) (rest := S) hlen rfl
    (by show 2 * 0 + _ ≤ _; rw [hwt]; omega) (hb hby hd) (fun _ _ => ⟨rfl, eT, hcl, hsl⟩)
  dsimp only [Pt.U, Pt.locs, Pt.cells, Pt.slots] at X2 l2 y2 z2 st2 hQ
  subst l2 y2 z2
  obtain ⟨q1, q2, q3⟩ := hQ
  exact OF.step (fun t z => st2.trans z) (k1 v T' T'.heap ⟨⟨hx, hZ, hby, hml, hown, hnm, hr, hlk⟩, hz, Nat.le_trans hz' q2, rfl, _, X2, Fr.app N q3⟩ q1 q2)
end OwnKit
theorem ow {a0 : Array Value} {Z : State} (hw : ∀ d ∈ tables_1, d.before a0 Z = true) (k : Nat) {d : Jvm.Cond} (h : tables_1[k]? = some d) : d.before a0 Z = true := hw _ (List.mem_of_getElem? h)
theorem own_rng (x : Int32) : -2147483648 ≤ x.toInt ∧ x.toInt < 2147483648 := ⟨x.le_toInt, x.toInt_lt⟩
theorem own_lrng (x : Int64) : -9223372036854775808 ≤ x.toInt ∧ x.toInt < 9223372036854775808 := ⟨x.le_toInt, x.toInt_lt⟩
theorem own_rem (x y : Int32) : (x - (x / y) * y).toInt = x.toInt.tmod y.toInt := by
  have a := (x % y).toInt_lt; have b := (x % y).le_toInt
  rw [Int32.toInt_mod] at a b
  rw [Int32.toInt_sub, Int32.toInt_mul, Int32.toInt_div, Int.bmod_mul_bmod, Int.sub_bmod_bmod, Int.mul_comm, ← Int.tmod_def]
  exact Jvm.Kit.bmod32 b a
theorem own_remp {x y : Int32} (hx : 0 ≤ x.toInt) : (x - (x / y) * y).toInt = x.toInt % y.toInt := by rw [own_rem, Int.tmod_eq_emod_of_nonneg hx]
theorem own_char (x : Int32) : 0 ≤ (x.toUInt32.toUInt16.toUInt32.toInt32).toInt ∧ (x.toUInt32.toUInt16.toUInt32.toInt32).toInt ≤ 65535 := by
  have q := fits_nar_char x
  simp only [fits, nar, Bool.and_eq_true, decide_eq_true_eq, Int32.le_iff_toInt_le] at q
  exact q
theorem own_ix {x y : Int32} {n : Nat} (hx : 0 ≤ x.toInt) (hy : y.toInt = n) (hn : 0 < n) : ∃ i : Nat, (x - x / y * y).toInt = i ∧ i < n := by
  have h := own_remp (y := y) hx
  rw [hy] at h
  have h1 := Int.emod_nonneg x.toInt (b := (n : Int)) (by omega)
  have h2 := Int.emod_lt_of_pos x.toInt (b := (n : Int)) (by omega)
  exact ⟨(x.toInt % n).toNat, by omega, by omega⟩
theorem own_nz {v : Int32} {n : Nat} (h : v.toInt = n) (hn : 0 < n) : v ≠ 0 := fun e => by
  rw [e] at h; have c0 : (0 : Int32).toInt = 0 := rfl; omega
theorem own_and31 (x : Int32) : 0 ≤ (x &&& 2147483647).toInt := by
  have h1 : (x &&& 2147483647).toInt = x.toInt % 2147483648 := Jvm.Kit.i32_mask x 2147483647 (k := 31) (by decide) (by decide)
  omega
theorem own_ushr (x : Int32) {n : UInt32} {k : Nat} (hn : n.toNat = k) (h0 : 0 < k) (hk : k < 32) : ((x.toUInt32 >>> n).toInt32).toInt = ((x.toUInt32.toNat / 2 ^ k : Nat) : Int) := by
  have e : ((x.toUInt32 >>> n).toInt32).toInt = ((x.toUInt32 >>> n).toBitVec).toInt := rfl
  have q : (x.toUInt32 >>> n).toBitVec.toNat = x.toUInt32.toNat / 2 ^ k := by
    show (x.toUInt32 >>> n).toNat = _
    rw [UInt32.toNat_shiftRight, hn, Nat.mod_eq_of_lt hk, Nat.shiftRight_eq_div_pow]
  have lt := x.toUInt32.toNat_lt
  have p1 : 2 ^ 1 ≤ 2 ^ k := Nat.pow_le_pow_right (by decide) h0
  have p2 : x.toUInt32.toNat / 2 ^ k ≤ x.toUInt32.toNat / 2 ^ 1 := Nat.div_le_div_left p1 (by decide)
  rw [e, BitVec.toInt_eq_toNat_cond, q, if_pos (by omega)]
theorem own_ushr1 (x : Int32) : 0 ≤ ((x.toUInt32 >>> ((1 : Int32) &&& 31).toUInt32).toInt32).toInt := by
  rw [own_ushr x (k := 1) (by decide) (by decide) (by decide)]; omega
theorem own_nn {v : Int32} (h : 0 ≤ v.toInt) : v.toBitVec.toNat = v.toInt.toNat := by
  have q : v.toInt = v.toBitVec.toInt := rfl
  rw [BitVec.toInt_eq_toNat_cond] at q
  have := v.toBitVec.isLt
  split at q <;> omega
theorem own_lnn {v : Int64} (h : 0 ≤ v.toInt) : v.toBitVec.toNat = v.toInt.toNat := by
  have q : v.toInt = v.toBitVec.toInt := rfl
  rw [BitVec.toInt_eq_toNat_cond] at q
  have := v.toBitVec.isLt
  split at q <;> omega
theorem own_ofNat {t : Nat} (h : t < 1000) : (Int32.ofNat t).toInt = t := Int32.toInt_ofNat_of_lt (by omega)
theorem own_ixn {x y : Int32} {n : Nat} (hx : 0 ≤ x.toInt) (hy : y.toInt = n) (hn : 0 < n) (hn2 : n < 1000) : ∃ i : Nat, x - x / y * y = Int32.ofNat i ∧ i < n := by
  obtain ⟨i, h1, h2⟩ := own_ix hx hy hn
  exact ⟨i, Int32.toInt_inj.mp (by rw [h1, own_ofNat (by omega)]), h2⟩
theorem own_flip {n : Nat} (h : n < 5) : (4 : Int32) - Int32.ofNat n = Int32.ofNat (4 - n) := by
  have key : ∀ k : Fin 5, (4 : Int32) - Int32.ofNat k.val = Int32.ofNat (4 - k.val) := by decide
  exact key ⟨n, h⟩
def own_it (ns : List Nat) (k : Nat) : Nat → Nat
  | 0 => k
  | t + 1 => ns.getD (own_it ns k t) 0
def own_gl (ns : List Nat) (k : Nat) : Nat → List Nat
  | 0 => ns
  | t + 1 => (own_gl ns k t).set (own_it ns k t) (own_it ns k 5)
def own_goodB (ns : List Nat) (k : Nat) : Bool :=
  decide (ns.length = 5) && (List.range 7).all (fun t => decide (own_it ns k t < 5)) && decide (own_it ns k 6 = own_it ns k 5) &&
  (List.range 6).all (fun t => decide ((own_gl ns k t).getD (own_it ns k t) 9 = own_it ns k (t + 1))) && (List.range 6).all (fun t => decide (own_it ns k (t + 1) ≠ own_it ns k 5 → t < 4)) &&
  (List.range 6).all (fun t => decide (own_it ns k (t + 1) = own_it ns k 5 → own_gl ns k t = own_gl ns k 4)) &&
  (List.range 5).all (fun i => decide (((i = own_it ns k 0 ∨ i = own_it ns k 1 ∨ i = own_it ns k 2 ∨ i = own_it ns k 3 ∨ i = own_it ns k 5) → (own_gl ns k 4).getD i 9 = own_it ns k 5) ∧ (¬ (i = own_it ns k 0 ∨ i = own_it ns k 1 ∨ i = own_it ns k 2 ∨ i = own_it ns k 3 ∨ i = own_it ns k 5) → (own_gl ns k 4).getD i 9 = ns.getD i 0)))
set_option maxRecDepth 65536 in
theorem own_all : ∀ (n1 : Fin 2) (n2 : Fin 3) (n3 : Fin 4) (n4 : Fin 5) (k : Fin 5), own_goodB [0, n1.val, n2.val, n3.val, n4.val] k.val = true ∧ own_goodB [4 - n4.val, 4 - n3.val, 4 - n2.val, 4 - n1.val, 4] k.val = true := by decide +kernel
theorem own_unpack {ns : List Nat} {k : Nat} (h : own_goodB ns k = true) : ns.length = 5 ∧ (∀ t, t < 7 → own_it ns k t < 5) ∧ own_it ns k 6 = own_it ns k 5 ∧
    (∀ t, t < 6 → (own_gl ns k t).getD (own_it ns k t) 9 = own_it ns k (t + 1)) ∧ (∀ t, t < 6 → own_it ns k (t + 1) ≠ own_it ns k 5 → t < 4) ∧
    (∀ t, t < 6 → own_it ns k (t + 1) = own_it ns k 5 → own_gl ns k t = own_gl ns k 4) ∧
    (∀ i, i < 5 → ((i = own_it ns k 0 ∨ i = own_it ns k 1 ∨ i = own_it ns k 2 ∨ i = own_it ns k 3 ∨ i = own_it ns k 5) → (own_gl ns k 4).getD i 9 = own_it ns k 5) ∧ (¬ (i = own_it ns k 0 ∨ i = own_it ns k 1 ∨ i = own_it ns k 2 ∨ i = own_it ns k 3 ∨ i = own_it ns k 5) → (own_gl ns k 4).getD i 9 = ns.getD i 0)) := by
  simp only [own_goodB, Bool.and_eq_true, decide_eq_true_eq, List.all_eq_true, List.mem_range] at h
  obtain ⟨⟨⟨⟨⟨⟨a, b⟩, c⟩, d⟩, e⟩, f⟩, g⟩ := h
  exact ⟨a, b, c, d, e, f, g⟩
theorem own_gl_len (ns : List Nat) (k : Nat) : ∀ t, (own_gl ns k t).length = ns.length
  | 0 => rfl
  | t + 1 => by show ((own_gl ns k t).set _ _).length = _; rw [List.length_set]; exact own_gl_len ns k t
theorem own_ld {ns : List Nat} {i : Nat} (d : Nat) (h : i < ns.length) : (ns.map Int32.ofNat)[i]? = some (Int32.ofNat (ns.getD i d)) := by
  rw [List.getElem?_map, List.getD_eq_getElem?_getD, List.getElem?_eq_getElem h]; rfl
theorem own_five : ∀ {ns : List Nat}, ns.length = 5 → ns.map Int32.ofNat = [Int32.ofNat (ns.getD 0 0), Int32.ofNat (ns.getD 1 0), Int32.ofNat (ns.getD 2 0), Int32.ofNat (ns.getD 3 0), Int32.ofNat (ns.getD 4 0)]
  | [_, _, _, _, _], _ => rfl
theorem own_stay {ns : List Nat} {k t : Nat} (h : own_it ns k (t + 1) = own_it ns k t) : ∀ j, own_it ns k (t + j) = own_it ns k t
  | 0 => rfl
  | j + 1 => by
    show ns.getD (own_it ns k (t + j)) 0 = _
    rw [own_stay h j]; exact h
def own_sl : Option Int32 → Slot
  | none => .unset
  | some w => .val (.int w)
theorem own_cp {ns : List Nat} {k : Nat} (h : own_goodB ns k = true) (i : Nat) (hi : i < 5) (J : Int32) (hJ : J.toInt = i) : ∃ fw gw : Int32, (ns.map Int32.ofNat)[i]? = some fw ∧ ((own_gl ns k 4).map Int32.ofNat)[i]? = some gw ∧
    ((J.toInt = (Int32.ofNat (own_it ns k 0)).toInt ∨ J.toInt = (Int32.ofNat (own_it ns k 1)).toInt ∨ J.toInt = (Int32.ofNat (own_it ns k 2)).toInt ∨ J.toInt = (Int32.ofNat (own_it ns k 3)).toInt ∨ J.toInt = (Int32.ofNat (own_it ns k 5)).toInt) → gw = Int32.ofNat (own_it ns k 5)) ∧
    (¬ (J.toInt = (Int32.ofNat (own_it ns k 0)).toInt ∨ J.toInt = (Int32.ofNat (own_it ns k 1)).toInt ∨ J.toInt = (Int32.ofNat (own_it ns k 2)).toInt ∨ J.toInt = (Int32.ofNat (own_it ns k 3)).toInt ∨ J.toInt = (Int32.ofNat (own_it ns k 5)).toInt) → gw = fw) := by
  obtain ⟨hl, hb, -, -, -, -, hc⟩ := own_unpack h
  have e0 := own_ofNat (t := own_it ns k 0) (by have := hb 0 (by decide); omega)
  have e1 := own_ofNat (t := own_it ns k 1) (by have := hb 1 (by decide); omega)
  have e2 := own_ofNat (t := own_it ns k 2) (by have := hb 2 (by decide); omega)
  have e3 := own_ofNat (t := own_it ns k 3) (by have := hb 3 (by decide); omega)
  have e5 := own_ofNat (t := own_it ns k 5) (by have := hb 5 (by decide); omega)
  refine ⟨_, _, own_ld 0 (by omega), own_ld 9 (by rw [own_gl_len]; omega), fun q => ?_, fun q => ?_⟩
  · rw [(hc i hi).1 (by omega)]
  · rw [(hc i hi).2 (by omega)]
theorem own_pn0 : plainName "com/example/private_knowledge_graphs/privateknowledgegraphs/release/CanonicalLabelling" = true := by first | (simp [plainName, overriddenIn]; done) | decide +kernel
theorem own_ef1 (m : MethodId) (z0 : Addr) (z1 : Int32) : entryFrame m #[(.ref z0), (.int z1)] 5 = mkF m 0 #[.val (.ref z0), .val (.int z1), .unset, .unset, .unset] [] := by first | (simp [entryFrame, mkF, argsToLocals, Value.category]; done) | rfl
theorem own_d1_0 : decode prog_18_method_4_code 0 = .ok (.iload_n 1, 1) := by decide +kernel
theorem own_d1_1 : decode prog_18_method_4_code 1 = .ok (.istore_n 2, 1) := by decide +kernel
theorem own_d1_2 : decode prog_18_method_4_code 2 = .ok (.aload_n 0, 1) := by decide +kernel
theorem own_d1_3 : decode prog_18_method_4_code 3 = .ok (.iload_n 2, 1) := by decide +kernel
theorem own_d1_4 : decode prog_18_method_4_code 4 = .ok (.iaload, 1) := by decide +kernel
theorem own_d1_5 : decode prog_18_method_4_code 5 = .ok (.iload_n 2, 1) := by decide +kernel
theorem own_d1_6 : decode prog_18_method_4_code 6 = .ok (.if_icmp .eq 10, 3) := by decide +kernel
theorem own_d1_16 : decode prog_18_method_4_code 16 = .ok (.iload_n 1, 1) := by decide +kernel
theorem own_d1_17 : decode prog_18_method_4_code 17 = .ok (.istore_n 3, 1) := by decide +kernel
theorem own_d1_18 : decode prog_18_method_4_code 18 = .ok (.aload_n 0, 1) := by decide +kernel
theorem own_d1_19 : decode prog_18_method_4_code 19 = .ok (.iload_n 3, 1) := by decide +kernel
theorem own_d1_20 : decode prog_18_method_4_code 20 = .ok (.iaload, 1) := by decide +kernel
theorem own_d1_21 : decode prog_18_method_4_code 21 = .ok (.iload_n 2, 1) := by decide +kernel
theorem own_d1_22 : decode prog_18_method_4_code 22 = .ok (.if_icmp .eq 18, 3) := by decide +kernel
theorem own_d1_40 : decode prog_18_method_4_code 40 = .ok (.iload_n 2, 1) := by decide +kernel
theorem own_d1_41 : decode prog_18_method_4_code 41 = .ok (.ireturn, 1) := by decide +kernel
theorem own_d1_25 : decode prog_18_method_4_code 25 = .ok (.aload_n 0, 1) := by decide +kernel
theorem own_d1_26 : decode prog_18_method_4_code 26 = .ok (.iload_n 3, 1) := by decide +kernel
theorem own_d1_27 : decode prog_18_method_4_code 27 = .ok (.iaload, 1) := by decide +kernel
theorem own_d1_28 : decode prog_18_method_4_code 28 = .ok (.istore 4, 2) := by decide +kernel
theorem own_d1_30 : decode prog_18_method_4_code 30 = .ok (.aload_n 0, 1) := by decide +kernel
theorem own_d1_31 : decode prog_18_method_4_code 31 = .ok (.iload_n 3, 1) := by decide +kernel
theorem own_d1_32 : decode prog_18_method_4_code 32 = .ok (.iload_n 2, 1) := by decide +kernel
theorem own_d1_33 : decode prog_18_method_4_code 33 = .ok (.iastore, 1) := by decide +kernel
theorem own_d1_34 : decode prog_18_method_4_code 34 = .ok (.iload 4, 2) := by decide +kernel
theorem own_d1_36 : decode prog_18_method_4_code 36 = .ok (.istore_n 3, 1) := by decide +kernel
theorem own_d1_37 : decode prog_18_method_4_code 37 = .ok (.goto (-19), 3) := by decide +kernel
theorem own_d1_9 : decode prog_18_method_4_code 9 = .ok (.aload_n 0, 1) := by decide +kernel
theorem own_d1_10 : decode prog_18_method_4_code 10 = .ok (.iload_n 2, 1) := by decide +kernel
theorem own_d1_11 : decode prog_18_method_4_code 11 = .ok (.iaload, 1) := by decide +kernel
theorem own_d1_12 : decode prog_18_method_4_code 12 = .ok (.istore_n 2, 1) := by decide +kernel
theorem own_d1_13 : decode prog_18_method_4_code 13 = .ok (.goto (-11), 3) := by decide +kernel
set_option maxRecDepth 65536 in
set_option maxHeartbeats 4000000 in
theorem rm1 (l : Launch) (Z : State) (a0 : Array Value) (hw : ∀ d ∈ tables_1, d.before a0 Z = true) (b0 : Addr) (k : Nat) (h0 : Heap) (n0 : Nat) (Z0 : n0 ≤ h0.size) (ns : List Nat) (A0 : OA Z h0 b0 .int (ns.map Int32.ofNat)) (g0 : n0 ≤ b0) (hgood : own_goodB ns k = true) :
    OCon l Z (⟨"com/example/private_knowledge_graphs/privateknowledgegraphs/release/CanonicalLabelling", "root", "([II)I"⟩ : MethodName) prog_18_method_4_code 5 (some .int) [] ({ frames := 0, cells := 0, slots := 0, locals := 0 } : Room) #[(.ref b0), (.int (Int32.ofNat k))] h0 n0 (QI fun r h' => r = Int32.ofNat (own_it ns k 5) ∧ Keep h0 h' [b0] ∧ OA Z h' b0 .int ((own_gl ns k 4).map Int32.ofNat)) := by
  refine OCon.mk (plainFor_of_name own_pn0) Z0 ?_
  intro p e s m below meth cd s₁ W0
  refine OF.cast (own_ef1 m b0 (Int32.ofNat k)) ?_
  obtain ⟨hlen, hlt, hfix, hgl, hfour, hG, hcell⟩ := own_unpack hgood
  refine o_iloadN W0 own_d1_0 (v := (Int32.ofNat k)) rfl (pc' := 1) rfl ?_
  refine o_istoreN W0 (L' := #[.val (.ref b0), .val (.int (Int32.ofNat k)), .val (.int (Int32.ofNat k)), .unset, .unset]) own_d1_1 rfl (pc' := 2) rfl ?_
  refine OF.loop (α := Nat) (fun t => 5 - t) (fun t => t ≤ 5) (fun _ => s₁) (fun t => mkF m 2 #[.val (.ref b0), .val (.int (Int32.ofNat k)), .val (.int (Int32.ofNat (own_it ns k t))), .unset, .unset] []) ?_ 0 ?_
  · intro t hv ih
    have hv : t ≤ 5 := hv
    have htl := hlt t (by omega)
    have hvt := own_ofNat (t := own_it ns k t) (by omega)
    have htl1 := hlt (t + 1) (by omega)
    have hvt1 := own_ofNat (t := own_it ns k (t + 1)) (by omega)
    show OF _ _ _ _ _ _ _ s₁ (mkF m 2 #[.val (.ref b0), .val (.int (Int32.ofNat k)), .val (.int (Int32.ofNat (own_it ns k t))), .unset, .unset] [])
    refine o_aloadN W0 own_d1_2 (v := (.ref b0)) rfl rfl (pc' := 3) rfl ?_
    refine o_iloadN W0 own_d1_3 (v := (Int32.ofNat (own_it ns k t))) rfl (pc' := 4) rfl ?_
    refine o_iaload W0 A0 own_d1_4 (pc' := 5) rfl (i := (own_it ns k t)) (v := (Int32.ofNat (own_it ns k (t + 1)))) hvt (own_ld 0 (by omega)) ?_
    refine o_iloadN W0 own_d1_5 (v := (Int32.ofNat (own_it ns k t))) rfl (pc' := 6) rfl ?_
    refine o_icmp_eq W0 own_d1_6 (by decide) (pq := 16) (by decide) (pc' := 9) rfl (fun hc6 => ?_) (fun hc6 => ?_)
    · have hR : own_it ns k t = own_it ns k 5 := by
        have q := own_stay (ns := ns) (k := k) (t := t) (by omega) (5 - t)
        rw [show t + (5 - t) = 5 from by omega] at q
        exact q.symm
      rw [hR]
      refine o_iloadN W0 own_d1_16 (v := (Int32.ofNat k)) rfl (pc' := 17) rfl ?_
      refine o_istoreN W0 (L' := #[.val (.ref b0), .val (.int (Int32.ofNat k)), .val (.int (Int32.ofNat (own_it ns k 5))), .val (.int (Int32.ofNat k)), .unset]) own_d1_17 rfl (pc' := 18) rfl ?_
      refine OF.loop (α := State × Heap × Nat × Option Int32) (fun v => 5 - v.2.2.1) (fun v => OW p l e ({ frames := 0, cells := 0, slots := 0, locals := 0 } : Room) s m #[(.ref b0), (.int (Int32.ofNat k))] below meth cd Z prog_18_method_4_code 5 (⟨"com/example/private_knowledge_graphs/privateknowledgegraphs/release/CanonicalLabelling", "root", "([II)I"⟩ : MethodName).cls (⟨"com/example/private_knowledge_graphs/privateknowledgegraphs/release/CanonicalLabelling", "root", "([II)I"⟩ : MethodName).name (some .int) n0 h0.size v.1 v.2.1 0 0 ∧ v.2.2.1 ≤ 4 ∧ Keep h0 v.2.1 [b0] ∧ OA Z v.2.1 b0 .int ((own_gl ns k v.2.2.1).map Int32.ofNat)) (fun v => v.1) (fun v => mkF m 18 #[.val (.ref b0), .val (.int (Int32.ofNat k)), .val (.int (Int32.ofNat (own_it ns k 5))), .val (.int (Int32.ofNat (own_it ns k v.2.2.1))), own_sl v.2.2.2] []) ?_ (s₁, h0, 0, none) ?_
      · intro ⟨TL, hL, t, sl⟩ hv ih
        obtain ⟨WL, hv1, KL, AL⟩ := hv
        have hv1 : t ≤ 4 := hv1
        have htl := hlt t (by omega)
        have hvt := own_ofNat (t := own_it ns k t) (by omega)
        have htl1 := hlt (t + 1) (by omega)
        have hvt1 := own_ofNat (t := own_it ns k (t + 1)) (by omega)
        have hv5 := own_ofNat (t := own_it ns k 5) (by have := hlt 5 (by decide); omega)
        show OF _ _ _ _ _ _ _ TL (mkF m 18 #[.val (.ref b0), .val (.int (Int32.ofNat k)), .val (.int (Int32.ofNat (own_it ns k 5))), .val (.int (Int32.ofNat (own_it ns k t))), (own_sl sl)] [])
        refine o_aloadN WL own_d1_18 (v := (.ref b0)) rfl rfl (pc' := 19) rfl ?_
        refine o_iloadN WL own_d1_19 (v := (Int32.ofNat (own_it ns k t))) rfl (pc' := 20) rfl ?_
        refine o_iaload WL AL own_d1_20 (pc' := 21) rfl (i := (own_it ns k t)) (v := (Int32.ofNat (own_it ns k (t + 1)))) hvt (by rw [own_ld 9 (by rw [own_gl_len]; omega), hgl t (by omega)]) ?_
        refine o_iloadN WL own_d1_21 (v := (Int32.ofNat (own_it ns k 5))) rfl (pc' := 22) rfl ?_
        refine o_icmp_eq WL own_d1_22 (by decide) (pq := 40) (by decide) (pc' := 25) rfl (fun hc22 => ?_) (fun hc22 => ?_)
        · refine o_iloadN WL own_d1_40 (v := (Int32.ofNat (own_it ns k 5))) rfl (pc' := 41) rfl ?_
          refine o_retI WL rfl own_d1_41 (by decide) (by decide) ?_
          refine ⟨_, rfl, rfl, KL, ?_⟩
          rw [← hG t (by omega) (by omega)]
          exact AL
        · refine o_aloadN WL own_d1_25 (v := (.ref b0)) rfl rfl (pc' := 26) rfl ?_
          refine o_iloadN WL own_d1_26 (v := (Int32.ofNat (own_it ns k t))) rfl (pc' := 27) rfl ?_
          refine o_iaload WL AL own_d1_27 (pc' := 28) rfl (i := (own_it ns k t)) (v := (Int32.ofNat (own_it ns k (t + 1)))) hvt (by rw [own_ld 9 (by rw [own_gl_len]; omega), hgl t (by omega)]) ?_
          refine o_istore WL (L' := #[.val (.ref b0), .val (.int (Int32.ofNat k)), .val (.int (Int32.ofNat (own_it ns k 5))), .val (.int (Int32.ofNat (own_it ns k t))), .val (.int (Int32.ofNat (own_it ns k (t + 1))))]) own_d1_28 (by cases sl <;> rfl) (pc' := 30) rfl ?_
          refine o_aloadN WL own_d1_30 (v := (.ref b0)) rfl rfl (pc' := 31) rfl ?_
          refine o_iloadN WL own_d1_31 (v := (Int32.ofNat (own_it ns k t))) rfl (pc' := 32) rfl ?_
          refine o_iloadN WL own_d1_32 (v := (Int32.ofNat (own_it ns k 5))) rfl (pc' := 33) rfl ?_
          refine o_iastore WL AL g0 own_d1_33 (pc' := 34) rfl (i := (own_it ns k t)) hvt (by rw [List.length_map, own_gl_len]; omega) ?_
          intro T1 h1 W1 K1 A_b0_1
          refine o_iload W1 own_d1_34 (v := (Int32.ofNat (own_it ns k (t + 1)))) rfl (pc' := 36) rfl ?_
          refine o_istoreN W1 (L' := #[.val (.ref b0), .val (.int (Int32.ofNat k)), .val (.int (Int32.ofNat (own_it ns k 5))), .val (.int (Int32.ofNat (own_it ns k (t + 1)))), .val (.int (Int32.ofNat (own_it ns k (t + 1))))]) own_d1_36 rfl (pc' := 37) rfl ?_
          refine o_goto W1 own_d1_37 (by decide) (pq := 18) (by decide) ?_
          have h44 : t < 4 := hfour t (by omega) (by omega)
          exact ih (T1, h1, t + 1, some _) ⟨W1, by show t + 1 ≤ 4; omega, KL.trans K1 (fun x hx => Or.inl hx), by show OA Z _ b0 .int (((own_gl ns k t).set (own_it ns k t) (own_it ns k 5)).map Int32.ofNat); rw [List.map_set]; exact A_b0_1⟩ (by show 5 - (t + 1) < 5 - t; omega)
      · exact ⟨W0, by show 0 ≤ 4; omega, Keep.refl _ _, A0⟩
    · refine o_aloadN W0 own_d1_9 (v := (.ref b0)) rfl rfl (pc' := 10) rfl ?_
      refine o_iloadN W0 own_d1_10 (v := (Int32.ofNat (own_it ns k t))) rfl (pc' := 11) rfl ?_
      refine o_iaload W0 A0 own_d1_11 (pc' := 12) rfl (i := (own_it ns k t)) (v := (Int32.ofNat (own_it ns k (t + 1)))) hvt (own_ld 0 (by omega)) ?_
      refine o_istoreN W0 (L' := #[.val (.ref b0), .val (.int (Int32.ofNat k)), .val (.int (Int32.ofNat (own_it ns k (t + 1)))), .unset, .unset]) own_d1_12 rfl (pc' := 13) rfl ?_
      refine o_goto W0 own_d1_13 (by decide) (pq := 2) (by decide) ?_
      have h5 : t < 5 := by
        rcases Nat.lt_or_ge t 5 with h | h
        · exact h
        · obtain rfl : t = 5 := by omega
          have hfx : own_it ns k (5 + 1) = own_it ns k 5 := hfix
          exact absurd hfx (by omega)
      exact ih (t + 1) (by show t + 1 ≤ 5; omega) (by show 5 - (t + 1) < 5 - t; omega)
  · exact Nat.zero_le _
theorem own_pn1 : plainName "com/example/private_knowledge_graphs/privateknowledgegraphs/release/CanonicalLabellingRootPinLaw" = true := by first | (simp [plainName, overriddenIn]; done) | decide +kernel
theorem own_ef2 (m : MethodId) (z0 : Addr) (z1 : Addr) (z2 : Int32) (z3 : Int32) (z4 : Int32) (z5 : Int32) (z6 : Int32) (z7 : Int32) : entryFrame m #[(.ref z0), (.ref z1), (.int z2), (.int z3), (.int z4), (.int z5), (.int z6), (.int z7)] 10 = mkF m 0 #[.val (.ref z0), .val (.ref z1), .val (.int z2), .val (.int z3), .val (.int z4), .val (.int z5), .val (.int z6), .val (.int z7), .unset, .unset] [] := by first | (simp [entryFrame, mkF, argsToLocals, Value.category]; done) | rfl
theorem own_d2_0 : decode method_3_code 0 = .ok (.iload_n 2, 1) := by decide +kernel
theorem own_d2_1 : decode method_3_code 1 = .ok (.iload 4, 2) := by decide +kernel
theorem own_d2_3 : decode method_3_code 3 = .ok (.if_icmp .eq 26, 3) := by decide +kernel
theorem own_d2_29 : decode method_3_code 29 = .ok (.iconst 1, 1) := by decide +kernel
theorem own_d2_30 : decode method_3_code 30 = .ok (.goto 4, 3) := by decide +kernel
theorem own_d2_34 : decode method_3_code 34 = .ok (.istore 8, 2) := by decide +kernel
theorem own_d2_36 : decode method_3_code 36 = .ok (.iload 8, 2) := by decide +kernel
theorem own_d2_38 : decode method_3_code 38 = .ok (.ifCond .eq 7, 3) := by decide +kernel
theorem own_d2_41 : decode method_3_code 41 = .ok (.iload_n 3, 1) := by decide +kernel
theorem own_d2_42 : decode method_3_code 42 = .ok (.goto 6, 3) := by decide +kernel
theorem own_d2_48 : decode method_3_code 48 = .ok (.istore 9, 2) := by decide +kernel
theorem own_d2_50 : decode method_3_code 50 = .ok (.aload_n 1, 1) := by decide +kernel
theorem own_d2_51 : decode method_3_code 51 = .ok (.iload_n 2, 1) := by decide +kernel
theorem own_d2_52 : decode method_3_code 52 = .ok (.iaload, 1) := by decide +kernel
theorem own_d2_53 : decode method_3_code 53 = .ok (.iload 9, 2) := by decide +kernel
theorem own_d2_55 : decode method_3_code 55 = .ok (.if_icmp .ne 7, 3) := by decide +kernel
theorem own_d2_58 : decode method_3_code 58 = .ok (.iconst 1, 1) := by decide +kernel
theorem own_d2_59 : decode method_3_code 59 = .ok (.goto 4, 3) := by decide +kernel
theorem own_d2_63 : decode method_3_code 63 = .ok (.ireturn, 1) := by decide +kernel
theorem own_d2_6 : decode method_3_code 6 = .ok (.iload_n 2, 1) := by decide +kernel
theorem own_d2_7 : decode method_3_code 7 = .ok (.iload 5, 2) := by decide +kernel
theorem own_d2_9 : decode method_3_code 9 = .ok (.if_icmp .eq 20, 3) := by decide +kernel
theorem own_d2_12 : decode method_3_code 12 = .ok (.iload_n 2, 1) := by decide +kernel
theorem own_d2_13 : decode method_3_code 13 = .ok (.iload 6, 2) := by decide +kernel
theorem own_d2_15 : decode method_3_code 15 = .ok (.if_icmp .eq 14, 3) := by decide +kernel
theorem own_d2_18 : decode method_3_code 18 = .ok (.iload_n 2, 1) := by decide +kernel
theorem own_d2_19 : decode method_3_code 19 = .ok (.iload 7, 2) := by decide +kernel
theorem own_d2_21 : decode method_3_code 21 = .ok (.if_icmp .eq 8, 3) := by decide +kernel
theorem own_d2_24 : decode method_3_code 24 = .ok (.iload_n 2, 1) := by decide +kernel
theorem own_d2_25 : decode method_3_code 25 = .ok (.iload_n 3, 1) := by decide +kernel
theorem own_d2_26 : decode method_3_code 26 = .ok (.if_icmp .ne 7, 3) := by decide +kernel
theorem own_d2_33 : decode method_3_code 33 = .ok (.iconst 0, 1) := by decide +kernel
theorem own_d2_45 : decode method_3_code 45 = .ok (.aload_n 0, 1) := by decide +kernel
theorem own_d2_46 : decode method_3_code 46 = .ok (.iload_n 2, 1) := by decide +kernel
theorem own_d2_47 : decode method_3_code 47 = .ok (.iaload, 1) := by decide +kernel
set_option maxRecDepth 65536 in
set_option maxHeartbeats 4000000 in
theorem rm2 (l : Launch) (Z : State) (a0 : Array Value) (hw : ∀ d ∈ tables_1, d.before a0 Z = true) (b0 : Addr) (b1 : Addr) (y2 : Int32) (y3 : Int32) (y4 : Int32) (y5 : Int32) (y6 : Int32) (y7 : Int32) (h0 : Heap) (n0 : Nat) (Z0 : n0 ≤ h0.size) (fs gs : List Int32) (fw gw : Int32) (jn : Nat) (A0 : OA Z h0 b0 .int fs) (A1 : OA Z h0 b1 .int gs) (hj : y2.toInt = jn) (hfw : fs[jn]? = some fw) (hgw : gs[jn]? = some gw) (hA : (y2.toInt = y4.toInt ∨ y2.toInt = y5.toInt ∨ y2.toInt = y6.toInt ∨ y2.toInt = y7.toInt ∨ y2.toInt = y3.toInt) → gw = y3) (hB : ¬ (y2.toInt = y4.toInt ∨ y2.toInt = y5.toInt ∨ y2.toInt = y6.toInt ∨ y2.toInt = y7.toInt ∨ y2.toInt = y3.toInt) → gw = fw) :
    OCon l Z (⟨"com/example/private_knowledge_graphs/privateknowledgegraphs/release/CanonicalLabellingRootPinLaw", "cell", "([I[IIIIIII)Z"⟩ : MethodName) method_3_code 10 (some .boolean) [] ({ frames := 0, cells := 0, slots := 0, locals := 0 } : Room) #[(.ref b0), (.ref b1), (.int y2), (.int y3), (.int y4), (.int y5), (.int y6), (.int y7)] h0 n0 (QI fun r h' => r = 1 ∧ h0 = h') := by
  refine OCon.mk (plainFor_of_name own_pn1) Z0 ?_
  intro p e s m below meth cd s₁ W0
  refine OF.cast (own_ef2 m b0 b1 y2 y3 y4 y5 y6 y7) ?_
  refine o_iloadN W0 own_d2_0 (v := y2) rfl (pc' := 1) rfl ?_
  refine o_iload W0 own_d2_1 (v := y4) rfl (pc' := 3) rfl ?_
  refine o_icmp_eq W0 own_d2_3 (by decide) (pq := 29) (by decide) (pc' := 6) rfl (fun hc3 => ?_) (fun hc3 => ?_)
  · refine o_iconst W0 (v := (1 : Int32)) own_d2_29 rfl (pc' := 30) rfl ?_
    refine o_goto W0 own_d2_30 (by decide) (pq := 34) (by decide) ?_
    refine o_istore W0 (L' := #[.val (.ref b0), .val (.ref b1), .val (.int y2), .val (.int y3), .val (.int y4), .val (.int y5), .val (.int y6), .val (.int y7), .val (.int (1 : Int32)), .unset]) own_d2_34 rfl (pc' := 36) rfl ?_
    refine o_iload W0 own_d2_36 (v := (1 : Int32)) rfl (pc' := 38) rfl ?_
    refine o_if_eq W0 own_d2_38 (by decide) (pq := 45) (by decide) (pc' := 41) rfl (fun hc38 => ?_) (fun hc38 => ?_)
    · exact absurd hc38 (by decide)
    · refine o_iloadN W0 own_d2_41 (v := y3) rfl (pc' := 42) rfl ?_
      refine o_goto W0 own_d2_42 (by decide) (pq := 48) (by decide) ?_
      refine o_istore W0 (L' := #[.val (.ref b0), .val (.ref b1), .val (.int y2), .val (.int y3), .val (.int y4), .val (.int y5), .val (.int y6), .val (.int y7), .val (.int (1 : Int32)), .val (.int y3)]) own_d2_48 rfl (pc' := 50) rfl ?_
      refine o_aloadN W0 own_d2_50 (v := (.ref b1)) rfl rfl (pc' := 51) rfl ?_
      refine o_iloadN W0 own_d2_51 (v := y2) rfl (pc' := 52) rfl ?_
      refine o_iaload W0 A1 own_d2_52 (pc' := 53) rfl (i := jn) (v := gw) hj hgw ?_
      refine o_iload W0 own_d2_53 (v := y3) rfl (pc' := 55) rfl ?_
      refine o_icmp_ne W0 own_d2_55 (by decide) (pq := 62) (by decide) (pc' := 58) rfl (fun hc55 => ?_) (fun hc55 => ?_)
      · exfalso
        exact hc55 (congrArg Int32.toInt (hA (by omega)))
      · refine o_iconst W0 (v := (1 : Int32)) own_d2_58 rfl (pc' := 59) rfl ?_
        refine o_goto W0 own_d2_59 (by decide) (pq := 63) (by decide) ?_
        refine o_retN W0 (t := .boolean) rfl (by simp) own_d2_63 (by decide) (by decide) ?_
        exact ⟨(1 : Int32), rfl, rfl, rfl⟩
  · refine o_iloadN W0 own_d2_6 (v := y2) rfl (pc' := 7) rfl ?_
    refine o_iload W0 own_d2_7 (v := y5) rfl (pc' := 9) rfl ?_
    refine o_icmp_eq W0 own_d2_9 (by decide) (pq := 29) (by decide) (pc' := 12) rfl (fun hc9 => ?_) (fun hc9 => ?_)
    · refine o_iconst W0 (v := (1 : Int32)) own_d2_29 rfl (pc' := 30) rfl ?_
      refine o_goto W0 own_d2_30 (by decide) (pq := 34) (by decide) ?_
      refine o_istore W0 (L' := #[.val (.ref b0), .val (.ref b1), .val (.int y2), .val (.int y3), .val (.int y4), .val (.int y5), .val (.int y6), .val (.int y7), .val (.int (1 : Int32)), .unset]) own_d2_34 rfl (pc' := 36) rfl ?_
      refine o_iload W0 own_d2_36 (v := (1 : Int32)) rfl (pc' := 38) rfl ?_
      refine o_if_eq W0 own_d2_38 (by decide) (pq := 45) (by decide) (pc' := 41) rfl (fun hc38 => ?_) (fun hc38 => ?_)
      · exact absurd hc38 (by decide)
      · refine o_iloadN W0 own_d2_41 (v := y3) rfl (pc' := 42) rfl ?_
        refine o_goto W0 own_d2_42 (by decide) (pq := 48) (by decide) ?_
        refine o_istore W0 (L' := #[.val (.ref b0), .val (.ref b1), .val (.int y2), .val (.int y3), .val (.int y4), .val (.int y5), .val (.int y6), .val (.int y7), .val (.int (1 : Int32)), .val (.int y3)]) own_d2_48 rfl (pc' := 50) rfl ?_
        refine o_aloadN W0 own_d2_50 (v := (.ref b1)) rfl rfl (pc' := 51) rfl ?_
        refine o_iloadN W0 own_d2_51 (v := y2) rfl (pc' := 52) rfl ?_
        refine o_iaload W0 A1 own_d2_52 (pc' := 53) rfl (i := jn) (v := gw) hj hgw ?_
        refine o_iload W0 own_d2_53 (v := y3) rfl (pc' := 55) rfl ?_
        refine o_icmp_ne W0 own_d2_55 (by decide) (pq := 62) (by decide) (pc' := 58) rfl (fun hc55 => ?_) (fun hc55 => ?_)
        · exfalso
          exact hc55 (congrArg Int32.toInt (hA (by omega)))
        · refine o_iconst W0 (v := (1 : Int32)) own_d2_58 rfl (pc' := 59) rfl ?_
          refine o_goto W0 own_d2_59 (by decide) (pq := 63) (by decide) ?_
          refine o_retN W0 (t := .boolean) rfl (by simp) own_d2_63 (by decide) (by decide) ?_
          exact ⟨(1 : Int32), rfl, rfl, rfl⟩
    · refine o_iloadN W0 own_d2_12 (v := y2) rfl (pc' := 13) rfl ?_
      refine o_iload W0 own_d2_13 (v := y6) rfl (pc' := 15) rfl ?_
      refine o_icmp_eq W0 own_d2_15 (by decide) (pq := 29) (by decide) (pc' := 18) rfl (fun hc15 => ?_) (fun hc15 => ?_)
      · refine o_iconst W0 (v := (1 : Int32)) own_d2_29 rfl (pc' := 30) rfl ?_
        refine o_goto W0 own_d2_30 (by decide) (pq := 34) (by decide) ?_
        refine o_istore W0 (L' := #[.val (.ref b0), .val (.ref b1), .val (.int y2), .val (.int y3), .val (.int y4), .val (.int y5), .val (.int y6), .val (.int y7), .val (.int (1 : Int32)), .unset]) own_d2_34 rfl (pc' := 36) rfl ?_
        refine o_iload W0 own_d2_36 (v := (1 : Int32)) rfl (pc' := 38) rfl ?_
        refine o_if_eq W0 own_d2_38 (by decide) (pq := 45) (by decide) (pc' := 41) rfl (fun hc38 => ?_) (fun hc38 => ?_)
        · exact absurd hc38 (by decide)
        · refine o_iloadN W0 own_d2_41 (v := y3) rfl (pc' := 42) rfl ?_
          refine o_goto W0 own_d2_42 (by decide) (pq := 48) (by decide) ?_
          refine o_istore W0 (L' := #[.val (.ref b0), .val (.ref b1), .val (.int y2), .val (.int y3), .val (.int y4), .val (.int y5), .val (.int y6), .val (.int y7), .val (.int (1 : Int32)), .val (.int y3)]) own_d2_48 rfl (pc' := 50) rfl ?_
          refine o_aloadN W0 own_d2_50 (v := (.ref b1)) rfl rfl (pc' := 51) rfl ?_
          refine o_iloadN W0 own_d2_51 (v := y2) rfl (pc' := 52) rfl ?_
          refine o_iaload W0 A1 own_d2_52 (pc' := 53) rfl (i := jn) (v := gw) hj hgw ?_
          refine o_iload W0 own_d2_53 (v := y3) rfl (pc' := 55) rfl ?_
          refine o_icmp_ne W0 own_d2_55 (by decide) (pq := 62) (by decide) (pc' := 58) rfl (fun hc55 => ?_) (fun hc55 => ?_)
          · exfalso
            exact hc55 (congrArg Int32.toInt (hA (by omega)))
          · refine o_iconst W0 (v := (1 : Int32)) own_d2_58 rfl (pc' := 59) rfl ?_
            refine o_goto W0 own_d2_59 (by decide) (pq := 63) (by decide) ?_
            refine o_retN W0 (t := .boolean) rfl (by simp) own_d2_63 (by decide) (by decide) ?_
            exact ⟨(1 : Int32), rfl, rfl, rfl⟩
      · refine o_iloadN W0 own_d2_18 (v := y2) rfl (pc' := 19) rfl ?_
        refine o_iload W0 own_d2_19 (v := y7) rfl (pc' := 21) rfl ?_
        refine o_icmp_eq W0 own_d2_21 (by decide) (pq := 29) (by decide) (pc' := 24) rfl (fun hc21 => ?_) (fun hc21 => ?_)
        · refine o_iconst W0 (v := (1 : Int32)) own_d2_29 rfl (pc' := 30) rfl ?_
          refine o_goto W0 own_d2_30 (by decide) (pq := 34) (by decide) ?_
          refine o_istore W0 (L' := #[.val (.ref b0), .val (.ref b1), .val (.int y2), .val (.int y3), .val (.int y4), .val (.int y5), .val (.int y6), .val (.int y7), .val (.int (1 : Int32)), .unset]) own_d2_34 rfl (pc' := 36) rfl ?_
          refine o_iload W0 own_d2_36 (v := (1 : Int32)) rfl (pc' := 38) rfl ?_
          refine o_if_eq W0 own_d2_38 (by decide) (pq := 45) (by decide) (pc' := 41) rfl (fun hc38 => ?_) (fun hc38 => ?_)
          · exact absurd hc38 (by decide)
          · refine o_iloadN W0 own_d2_41 (v := y3) rfl (pc' := 42) rfl ?_
            refine o_goto W0 own_d2_42 (by decide) (pq := 48) (by decide) ?_
            refine o_istore W0 (L' := #[.val (.ref b0), .val (.ref b1), .val (.int y2), .val (.int y3), .val (.int y4), .val (.int y5), .val (.int y6), .val (.int y7), .val (.int (1 : Int32)), .val (.int y3)]) own_d2_48 rfl (pc' := 50) rfl ?_
            refine o_aloadN W0 own_d2_50 (v := (.ref b1)) rfl rfl (pc' := 51) rfl ?_
            refine o_iloadN W0 own_d2_51 (v := y2) rfl (pc' := 52) rfl ?_
            refine o_iaload W0 A1 own_d2_52 (pc' := 53) rfl (i := jn) (v := gw) hj hgw ?_
            refine o_iload W0 own_d2_53 (v := y3) rfl (pc' := 55) rfl ?_
            refine o_icmp_ne W0 own_d2_55 (by decide) (pq := 62) (by decide) (pc' := 58) rfl (fun hc55 => ?_) (fun hc55 => ?_)
            · exfalso
              exact hc55 (congrArg Int32.toInt (hA (by omega)))
            · refine o_iconst W0 (v := (1 : Int32)) own_d2_58 rfl (pc' := 59) rfl ?_
              refine o_goto W0 own_d2_59 (by decide) (pq := 63) (by decide) ?_
              refine o_retN W0 (t := .boolean) rfl (by simp) own_d2_63 (by decide) (by decide) ?_
              exact ⟨(1 : Int32), rfl, rfl, rfl⟩
        · refine o_iloadN W0 own_d2_24 (v := y2) rfl (pc' := 25) rfl ?_
          refine o_iloadN W0 own_d2_25 (v := y3) rfl (pc' := 26) rfl ?_
          refine o_icmp_ne W0 own_d2_26 (by decide) (pq := 33) (by decide) (pc' := 29) rfl (fun hc26 => ?_) (fun hc26 => ?_)
          · refine o_iconst W0 (v := (0 : Int32)) own_d2_33 rfl (pc' := 34) rfl ?_
            refine o_istore W0 (L' := #[.val (.ref b0), .val (.ref b1), .val (.int y2), .val (.int y3), .val (.int y4), .val (.int y5), .val (.int y6), .val (.int y7), .val (.int (0 : Int32)), .unset]) own_d2_34 rfl (pc' := 36) rfl ?_
            refine o_iload W0 own_d2_36 (v := (0 : Int32)) rfl (pc' := 38) rfl ?_
            refine o_if_eq W0 own_d2_38 (by decide) (pq := 45) (by decide) (pc' := 41) rfl (fun hc38 => ?_) (fun hc38 => ?_)
            · refine o_aloadN W0 own_d2_45 (v := (.ref b0)) rfl rfl (pc' := 46) rfl ?_
              refine o_iloadN W0 own_d2_46 (v := y2) rfl (pc' := 47) rfl ?_
              refine o_iaload W0 A0 own_d2_47 (pc' := 48) rfl (i := jn) (v := fw) hj hfw ?_
              refine o_istore W0 (L' := #[.val (.ref b0), .val (.ref b1), .val (.int y2), .val (.int y3), .val (.int y4), .val (.int y5), .val (.int y6), .val (.int y7), .val (.int (0 : Int32)), .val (.int fw)]) own_d2_48 rfl (pc' := 50) rfl ?_
              refine o_aloadN W0 own_d2_50 (v := (.ref b1)) rfl rfl (pc' := 51) rfl ?_
              refine o_iloadN W0 own_d2_51 (v := y2) rfl (pc' := 52) rfl ?_
              refine o_iaload W0 A1 own_d2_52 (pc' := 53) rfl (i := jn) (v := gw) hj hgw ?_
              refine o_iload W0 own_d2_53 (v := fw) rfl (pc' := 55) rfl ?_
              refine o_icmp_ne W0 own_d2_55 (by decide) (pq := 62) (by decide) (pc' := 58) rfl (fun hc55 => ?_) (fun hc55 => ?_)
              · exfalso
                exact hc55 (congrArg Int32.toInt (hB (by omega)))
              · refine o_iconst W0 (v := (1 : Int32)) own_d2_58 rfl (pc' := 59) rfl ?_
                refine o_goto W0 own_d2_59 (by decide) (pq := 63) (by decide) ?_
                refine o_retN W0 (t := .boolean) rfl (by simp) own_d2_63 (by decide) (by decide) ?_
                exact ⟨(1 : Int32), rfl, rfl, rfl⟩
            · exact absurd hc38 (by decide)
          · refine o_iconst W0 (v := (1 : Int32)) own_d2_29 rfl (pc' := 30) rfl ?_
            refine o_goto W0 own_d2_30 (by decide) (pq := 34) (by decide) ?_
            refine o_istore W0 (L' := #[.val (.ref b0), .val (.ref b1), .val (.int y2), .val (.int y3), .val (.int y4), .val (.int y5), .val (.int y6), .val (.int y7), .val (.int (1 : Int32)), .unset]) own_d2_34 rfl (pc' := 36) rfl ?_
            refine o_iload W0 own_d2_36 (v := (1 : Int32)) rfl (pc' := 38) rfl ?_
            refine o_if_eq W0 own_d2_38 (by decide) (pq := 45) (by decide) (pc' := 41) rfl (fun hc38 => ?_) (fun hc38 => ?_)
            · exact absurd hc38 (by decide)
            · refine o_iloadN W0 own_d2_41 (v := y3) rfl (pc' := 42) rfl ?_
              refine o_goto W0 own_d2_42 (by decide) (pq := 48) (by decide) ?_
              refine o_istore W0 (L' := #[.val (.ref b0), .val (.ref b1), .val (.int y2), .val (.int y3), .val (.int y4), .val (.int y5), .val (.int y6), .val (.int y7), .val (.int (1 : Int32)), .val (.int y3)]) own_d2_48 rfl (pc' := 50) rfl ?_
              refine o_aloadN W0 own_d2_50 (v := (.ref b1)) rfl rfl (pc' := 51) rfl ?_
              refine o_iloadN W0 own_d2_51 (v := y2) rfl (pc' := 52) rfl ?_
              refine o_iaload W0 A1 own_d2_52 (pc' := 53) rfl (i := jn) (v := gw) hj hgw ?_
              refine o_iload W0 own_d2_53 (v := y3) rfl (pc' := 55) rfl ?_
              refine o_icmp_ne W0 own_d2_55 (by decide) (pq := 62) (by decide) (pc' := 58) rfl (fun hc55 => ?_) (fun hc55 => ?_)
              · exfalso
                exact hc55 (congrArg Int32.toInt (hA (by omega)))
              · refine o_iconst W0 (v := (1 : Int32)) own_d2_58 rfl (pc' := 59) rfl ?_
                refine o_goto W0 own_d2_59 (by decide) (pq := 63) (by decide) ?_
                refine o_retN W0 (t := .boolean) rfl (by simp) own_d2_63 (by decide) (by decide) ?_
                exact ⟨(1 : Int32), rfl, rfl, rfl⟩
theorem own_ef0 (m : MethodId) (z0 : Int32) (z1 : Int32) (z2 : Int32) (z3 : Int32) (z4 : Int32) (z5 : Int32) : entryFrame m #[(.int z0), (.int z1), (.int z2), (.int z3), (.int z4), (.int z5)] maxLocals = mkF m 0 #[.val (.int z0), .val (.int z1), .val (.int z2), .val (.int z3), .val (.int z4), .val (.int z5), .unset, .unset, .unset, .unset, .unset, .unset, .unset, .unset, .unset, .unset, .unset] [] := by first | (simp [entryFrame, mkF, argsToLocals, Value.category, maxLocals]; done) | rfl
theorem own_pd0 : parseMethodDescriptor "([II)I" = some ⟨[(.array .int), .int], some .int⟩ := by decide +kernel
theorem own_pd1 : parseMethodDescriptor "([I[IIIIIII)Z" = some ⟨[(.array .int), (.array .int), .int, .int, .int, .int, .int, .int], some .boolean⟩ := by decide +kernel
set_option maxRecDepth 65536 in
set_option maxHeartbeats 4000000 in
theorem own_law (l : Launch) (Z : State) (a0 : Array Value) (hw : ∀ d ∈ tables_1, d.before a0 Z = true) (x0 : Int32) (x1 : Int32) (x2 : Int32) (x3 : Int32) (x4 : Int32) (x5 : Int32) (h0 : Heap) (n0 : Nat) (Z0 : n0 ≤ h0.size) :
    OCon l Z x code maxLocals ret tables_1 room_1 #[(.int x0), (.int x1), (.int x2), (.int x3), (.int x4), (.int x5)] h0 n0 (fun v _ => v = some (.int 1)) := by
  refine OCon.mk (plainFor_of_name own_pn1) Z0 ?_
  intro p e s m below meth cd s₁ W0
  refine OF.cast (own_ef0 m x0 x1 x2 x3 x4 x5) ?_
  refine o_iconst W0 (v := (5 : Int32)) at_0 rfl (pc' := 1) rfl ?_
  refine o_newarray W0 (ty := .int) (len := 5) (cap := 5) (ow hw 0 rfl) rfl rfl rfl at_1 (pc' := 3) rfl rfl (by decide) (by decide) (by decide) (by decide) (kk' := 1) rfl (nn' := 5) rfl ?_
  intro T3 h3 a2 W3 E3 g_a2 A_a2
  have b_a2 : n0 ≤ a2 := by rw [g_a2]; exact W0.le
  have A_a2 : OA Z h3 a2 .int [0, 0, 0, 0, 0] := A_a2
  refine o_astore W3 (L' := #[.val (.int x0), .val (.int x1), .val (.int x2), .val (.int x3), .val (.int x4), .val (.int x5), .val (.ref a2), .unset, .unset, .unset, .unset, .unset, .unset, .unset, .unset, .unset, .unset]) at_3 rfl rfl (pc' := 5) rfl ?_
  refine o_aload W3 at_5 (v := (.ref a2)) rfl rfl (pc' := 7) rfl ?_
  refine o_iconst W3 (v := (0 : Int32)) at_7 rfl (pc' := 8) rfl ?_
  refine o_iconst W3 (v := (0 : Int32)) at_8 rfl (pc' := 9) rfl ?_
  refine o_iastore W3 A_a2 b_a2 at_9 (pc' := 10) rfl (i := 0) rfl (Nat.le_of_ble_eq_true rfl) ?_
  intro T4 h4 W4 K4 A_a2_4
  have A_a2_4 : OA Z h4 a2 .int [(0 : Int32), 0, 0, 0, 0] := A_a2_4
  refine o_aload W4 at_10 (v := (.ref a2)) rfl rfl (pc' := 12) rfl ?_
  refine o_iconst W4 (v := (1 : Int32)) at_12 rfl (pc' := 13) rfl ?_
  refine o_iloadN W4 at_13 (v := x0) rfl (pc' := 14) rfl ?_
  refine o_ldc W4 (ow hw 1 rfl) at_14 (pc' := 16) rfl ?_
  refine o_iand W4 at_16 (pc' := 17) rfl ?_
  refine o_iconst W4 (v := (2 : Int32)) at_17 rfl (pc' := 18) rfl ?_
  refine o_irem W4 at_18 (by decide) (pc' := 19) rfl ?_
  obtain ⟨n1, hn1, hlt_n1⟩ := own_ixn (own_and31 x0) (y := 2) (n := 2) rfl (by decide) (by decide)
  rw [hn1]
  refine o_iastore W4 A_a2_4 b_a2 at_19 (pc' := 20) rfl (i := 1) rfl (Nat.le_of_ble_eq_true rfl) ?_
  intro T5 h5 W5 K5 A_a2_5
  have A_a2_5 : OA Z h5 a2 .int [(0 : Int32), (Int32.ofNat n1), 0, 0, 0] := A_a2_5
  refine o_aload W5 at_20 (v := (.ref a2)) rfl rfl (pc' := 22) rfl ?_
  refine o_iconst W5 (v := (2 : Int32)) at_22 rfl (pc' := 23) rfl ?_
  refine o_iloadN W5 at_23 (v := x1) rfl (pc' := 24) rfl ?_
  refine o_ldc W5 (ow hw 1 rfl) at_24 (pc' := 26) rfl ?_
  refine o_iand W5 at_26 (pc' := 27) rfl ?_
  refine o_iconst W5 (v := (3 : Int32)) at_27 rfl (pc' := 28) rfl ?_
  refine o_irem W5 at_28 (by decide) (pc' := 29) rfl ?_
  obtain ⟨n2, hn2, hlt_n2⟩ := own_ixn (own_and31 x1) (y := 3) (n := 3) rfl (by decide) (by decide)
  rw [hn2]
  refine o_iastore W5 A_a2_5 b_a2 at_29 (pc' := 30) rfl (i := 2) rfl (Nat.le_of_ble_eq_true rfl) ?_
  intro T6 h6 W6 K6 A_a2_6
  have A_a2_6 : OA Z h6 a2 .int [(0 : Int32), (Int32.ofNat n1), (Int32.ofNat n2), 0, 0] := A_a2_6
  refine o_aload W6 at_30 (v := (.ref a2)) rfl rfl (pc' := 32) rfl ?_
  refine o_iconst W6 (v := (3 : Int32)) at_32 rfl (pc' := 33) rfl ?_
  refine o_iloadN W6 at_33 (v := x2) rfl (pc' := 34) rfl ?_
  refine o_ldc W6 (ow hw 1 rfl) at_34 (pc' := 36) rfl ?_
  refine o_iand W6 at_36 (pc' := 37) rfl ?_
  refine o_iconst W6 (v := (4 : Int32)) at_37 rfl (pc' := 38) rfl ?_
  refine o_irem W6 at_38 (by decide) (pc' := 39) rfl ?_
  obtain ⟨n3, hn3, hlt_n3⟩ := own_ixn (own_and31 x2) (y := 4) (n := 4) rfl (by decide) (by decide)
  rw [hn3]
  refine o_iastore W6 A_a2_6 b_a2 at_39 (pc' := 40) rfl (i := 3) rfl (Nat.le_of_ble_eq_true rfl) ?_
  intro T7 h7 W7 K7 A_a2_7
  have A_a2_7 : OA Z h7 a2 .int [(0 : Int32), (Int32.ofNat n1), (Int32.ofNat n2), (Int32.ofNat n3), 0] := A_a2_7
  refine o_aload W7 at_40 (v := (.ref a2)) rfl rfl (pc' := 42) rfl ?_
  refine o_iconst W7 (v := (4 : Int32)) at_42 rfl (pc' := 43) rfl ?_
  refine o_iloadN W7 at_43 (v := x3) rfl (pc' := 44) rfl ?_
  refine o_ldc W7 (ow hw 1 rfl) at_44 (pc' := 46) rfl ?_
  refine o_iand W7 at_46 (pc' := 47) rfl ?_
  refine o_iconst W7 (v := (5 : Int32)) at_47 rfl (pc' := 48) rfl ?_
  refine o_irem W7 at_48 (by decide) (pc' := 49) rfl ?_
  obtain ⟨n4, hn4, hlt_n4⟩ := own_ixn (own_and31 x3) (y := 5) (n := 5) rfl (by decide) (by decide)
  rw [hn4]
  refine o_iastore W7 A_a2_7 b_a2 at_49 (pc' := 50) rfl (i := 4) rfl (Nat.le_of_ble_eq_true rfl) ?_
  intro T8 h8 W8 K8 A_a2_8
  have A_a2_8 : OA Z h8 a2 .int [(0 : Int32), (Int32.ofNat n1), (Int32.ofNat n2), (Int32.ofNat n3), (Int32.ofNat n4)] := A_a2_8
  refine o_iconst W8 (v := (5 : Int32)) at_50 rfl (pc' := 51) rfl ?_
  refine o_newarray W8 (ty := .int) (len := 5) (cap := 5) (ow hw 0 rfl) rfl rfl rfl at_51 (pc' := 53) rfl rfl (by decide) (by decide) (by decide) (by decide) (kk' := 2) rfl (nn' := 10) rfl ?_
  intro T10 h10 a9 W10 E10 g_a9 A_a9
  have b_a9 : n0 ≤ a9 := by rw [g_a9]; exact W8.le
  have ne_a2_a9 : a2 ≠ a9 := Nat.ne_of_lt (Nat.lt_of_lt_of_le A_a2_8.lt (Nat.le_of_eq g_a9.symm))
  have A_a2_10 := A_a2_8.ext E10
  have A_a9 : OA Z h10 a9 .int [0, 0, 0, 0, 0] := A_a9
  refine o_astore W10 (L' := #[.val (.int x0), .val (.int x1), .val (.int x2), .val (.int x3), .val (.int x4), .val (.int x5), .val (.ref a2), .val (.ref a9), .unset, .unset, .unset, .unset, .unset, .unset, .unset, .unset, .unset]) at_53 rfl rfl (pc' := 55) rfl ?_
  refine o_iload W10 at_55 (v := x5) rfl (pc' := 57) rfl ?_
  refine o_iconst W10 (v := (1 : Int32)) at_57 rfl (pc' := 58) rfl ?_
  refine o_iand W10 at_58 (pc' := 59) rfl ?_
  refine o_if_eq W10 at_59 (by decide) (pq := 115) (by decide) (pc' := 62) rfl (fun hc59 => ?_) (fun hc59 => ?_)
  · refine o_aload W10 at_115 (v := (.ref a9)) rfl rfl (pc' := 117) rfl ?_
    refine o_iconst W10 (v := (0 : Int32)) at_117 rfl (pc' := 118) rfl ?_
    refine o_aload W10 at_118 (v := (.ref a2)) rfl rfl (pc' := 120) rfl ?_
    refine o_iconst W10 (v := (0 : Int32)) at_120 rfl (pc' := 121) rfl ?_
    refine o_iaload W10 A_a2_10 at_121 (pc' := 122) rfl (i := 0) (v := (0 : Int32)) rfl rfl ?_
    refine o_iastore W10 A_a9 b_a9 at_122 (pc' := 123) rfl (i := 0) rfl (Nat.le_of_ble_eq_true rfl) ?_
    intro T11 h11 W11 K11 A_a9_11
    have A_a2_11 := A_a2_10.keep1 K11 ne_a2_a9
    have A_a9_11 : OA Z h11 a9 .int [(0 : Int32), 0, 0, 0, 0] := A_a9_11
    refine o_aload W11 at_123 (v := (.ref a9)) rfl rfl (pc' := 125) rfl ?_
    refine o_iconst W11 (v := (1 : Int32)) at_125 rfl (pc' := 126) rfl ?_
    refine o_aload W11 at_126 (v := (.ref a2)) rfl rfl (pc' := 128) rfl ?_
    refine o_iconst W11 (v := (1 : Int32)) at_128 rfl (pc' := 129) rfl ?_
    refine o_iaload W11 A_a2_11 at_129 (pc' := 130) rfl (i := 1) (v := (Int32.ofNat n1)) rfl rfl ?_
    refine o_iastore W11 A_a9_11 b_a9 at_130 (pc' := 131) rfl (i := 1) rfl (Nat.le_of_ble_eq_true rfl) ?_
    intro T12 h12 W12 K12 A_a9_12
    have A_a2_12 := A_a2_11.keep1 K12 ne_a2_a9
    have A_a9_12 : OA Z h12 a9 .int [(0 : Int32), (Int32.ofNat n1), 0, 0, 0] := A_a9_12
    refine o_aload W12 at_131 (v := (.ref a9)) rfl rfl (pc' := 133) rfl ?_
    refine o_iconst W12 (v := (2 : Int32)) at_133 rfl (pc' := 134) rfl ?_
    refine o_aload W12 at_134 (v := (.ref a2)) rfl rfl (pc' := 136) rfl ?_
    refine o_iconst W12 (v := (2 : Int32)) at_136 rfl (pc' := 137) rfl ?_
    refine o_iaload W12 A_a2_12 at_137 (pc' := 138) rfl (i := 2) (v := (Int32.ofNat n2)) rfl rfl ?_
    refine o_iastore W12 A_a9_12 b_a9 at_138 (pc' := 139) rfl (i := 2) rfl (Nat.le_of_ble_eq_true rfl) ?_
    intro T13 h13 W13 K13 A_a9_13
    have A_a2_13 := A_a2_12.keep1 K13 ne_a2_a9
    have A_a9_13 : OA Z h13 a9 .int [(0 : Int32), (Int32.ofNat n1), (Int32.ofNat n2), 0, 0] := A_a9_13
    refine o_aload W13 at_139 (v := (.ref a9)) rfl rfl (pc' := 141) rfl ?_
    refine o_iconst W13 (v := (3 : Int32)) at_141 rfl (pc' := 142) rfl ?_
    refine o_aload W13 at_142 (v := (.ref a2)) rfl rfl (pc' := 144) rfl ?_
    refine o_iconst W13 (v := (3 : Int32)) at_144 rfl (pc' := 145) rfl ?_
    refine o_iaload W13 A_a2_13 at_145 (pc' := 146) rfl (i := 3) (v := (Int32.ofNat n3)) rfl rfl ?_
    refine o_iastore W13 A_a9_13 b_a9 at_146 (pc' := 147) rfl (i := 3) rfl (Nat.le_of_ble_eq_true rfl) ?_
    intro T14 h14 W14 K14 A_a9_14
    have A_a2_14 := A_a2_13.keep1 K14 ne_a2_a9
    have A_a9_14 : OA Z h14 a9 .int [(0 : Int32), (Int32.ofNat n1), (Int32.ofNat n2), (Int32.ofNat n3), 0] := A_a9_14
    refine o_aload W14 at_147 (v := (.ref a9)) rfl rfl (pc' := 149) rfl ?_
    refine o_iconst W14 (v := (4 : Int32)) at_149 rfl (pc' := 150) rfl ?_
    refine o_aload W14 at_150 (v := (.ref a2)) rfl rfl (pc' := 152) rfl ?_
    refine o_iconst W14 (v := (4 : Int32)) at_152 rfl (pc' := 153) rfl ?_
    refine o_iaload W14 A_a2_14 at_153 (pc' := 154) rfl (i := 4) (v := (Int32.ofNat n4)) rfl rfl ?_
    refine o_iastore W14 A_a9_14 b_a9 at_154 (pc' := 155) rfl (i := 4) rfl (Nat.le_of_ble_eq_true rfl) ?_
    intro T15 h15 W15 K15 A_a9_15
    have A_a2_15 := A_a2_14.keep1 K15 ne_a2_a9
    have A_a9_15 : OA Z h15 a9 .int [(0 : Int32), (Int32.ofNat n1), (Int32.ofNat n2), (Int32.ofNat n3), (Int32.ofNat n4)] := A_a9_15
    refine o_iload W15 at_155 (v := x4) rfl (pc' := 157) rfl ?_
    refine o_ldc W15 (ow hw 1 rfl) at_157 (pc' := 159) rfl ?_
    refine o_iand W15 at_159 (pc' := 160) rfl ?_
    refine o_iconst W15 (v := (5 : Int32)) at_160 rfl (pc' := 161) rfl ?_
    refine o_irem W15 at_161 (by decide) (pc' := 162) rfl ?_
    obtain ⟨k, hk, hlt_k⟩ := own_ixn (own_and31 x4) (y := 5) (n := 5) rfl (by decide) (by decide)
    rw [hk]
    refine o_istore W15 (L' := #[.val (.int x0), .val (.int x1), .val (.int x2), .val (.int x3), .val (.int x4), .val (.int x5), .val (.ref a2), .val (.ref a9), .val (.int (Int32.ofNat k)), .unset, .unset, .unset, .unset, .unset, .unset, .unset, .unset]) at_162 rfl (pc' := 164) rfl ?_
    have AF : OA Z h15 a9 .int (([0, n1, n2, n3, n4] : List Nat).map Int32.ofNat) := A_a9_15
    obtain ⟨ns, hns⟩ : ∃ ns : List Nat, ns = [0, n1, n2, n3, n4] := ⟨_, rfl⟩
    rw [← hns] at AF
    have hgood : own_goodB ns k = true := by rw [hns]; exact (own_all ⟨n1, hlt_n1⟩ ⟨n2, hlt_n2⟩ ⟨n3, hlt_n3⟩ ⟨n4, hlt_n4⟩ ⟨k, hlt_k⟩).1
    obtain ⟨hlen, hlt, hfix, hgl, hfour, hG, hcell⟩ := own_unpack hgood
    have ht0 := own_ofNat (t := own_it ns k 0) (by have := hlt 0 (by decide); omega)
    have ht1 := own_ofNat (t := own_it ns k 1) (by have := hlt 1 (by decide); omega)
    have ht2 := own_ofNat (t := own_it ns k 2) (by have := hlt 2 (by decide); omega)
    have ht3 := own_ofNat (t := own_it ns k 3) (by have := hlt 3 (by decide); omega)
    have ht4 := own_ofNat (t := own_it ns k 4) (by have := hlt 4 (by decide); omega)
    have ht5 := own_ofNat (t := own_it ns k 5) (by have := hlt 5 (by decide); omega)
    have hl0 := hlt 0 (by decide)
    have hl1 := hlt 1 (by decide)
    have hl2 := hlt 2 (by decide)
    have hl3 := hlt 3 (by decide)
    have hl4 := hlt 4 (by decide)
    have hl5 := hlt 5 (by decide)
    refine o_iload W15 at_164 (v := (Int32.ofNat k)) rfl (pc' := 166) rfl ?_
    refine o_istore W15 (L' := #[.val (.int x0), .val (.int x1), .val (.int x2), .val (.int x3), .val (.int x4), .val (.int x5), .val (.ref a2), .val (.ref a9), .val (.int (Int32.ofNat k)), .val (.int (Int32.ofNat k)), .unset, .unset, .unset, .unset, .unset, .unset, .unset]) at_166 rfl (pc' := 168) rfl ?_
    refine o_aload W15 at_168 (v := (.ref a9)) rfl rfl (pc' := 170) rfl ?_
    refine o_iload W15 at_170 (v := (Int32.ofNat k)) rfl (pc' := 172) rfl ?_
    refine o_iaload W15 AF at_172 (pc' := 173) rfl (i := (own_it ns k 0)) (v := (Int32.ofNat (own_it ns k 1))) ht0 (own_ld 0 (by omega)) ?_
    refine o_istore W15 (L' := #[.val (.int x0), .val (.int x1), .val (.int x2), .val (.int x3), .val (.int x4), .val (.int x5), .val (.ref a2), .val (.ref a9), .val (.int (Int32.ofNat k)), .val (.int (Int32.ofNat k)), .val (.int (Int32.ofNat (own_it ns k 1))), .unset, .unset, .unset, .unset, .unset, .unset]) at_173 rfl (pc' := 175) rfl ?_
    refine o_aload W15 at_175 (v := (.ref a9)) rfl rfl (pc' := 177) rfl ?_
    refine o_iload W15 at_177 (v := (Int32.ofNat (own_it ns k 1))) rfl (pc' := 179) rfl ?_
    refine o_iaload W15 AF at_179 (pc' := 180) rfl (i := (own_it ns k 1)) (v := (Int32.ofNat (own_it ns k 2))) ht1 (own_ld 0 (by omega)) ?_
    refine o_istore W15 (L' := #[.val (.int x0), .val (.int x1), .val (.int x2), .val (.int x3), .val (.int x4), .val (.int x5), .val (.ref a2), .val (.ref a9), .val (.int (Int32.ofNat k)), .val (.int (Int32.ofNat k)), .val (.int (Int32.ofNat (own_it ns k 1))), .val (.int (Int32.ofNat (own_it ns k 2))), .unset, .unset, .unset, .unset, .unset]) at_180 rfl (pc' := 182) rfl ?_
    refine o_aload W15 at_182 (v := (.ref a9)) rfl rfl (pc' := 184) rfl ?_
    refine o_iload W15 at_184 (v := (Int32.ofNat (own_it ns k 2))) rfl (pc' := 186) rfl ?_
    refine o_iaload W15 AF at_186 (pc' := 187) rfl (i := (own_it ns k 2)) (v := (Int32.ofNat (own_it ns k 3))) ht2 (own_ld 0 (by omega)) ?_
    refine o_istore W15 (L' := #[.val (.int x0), .val (.int x1), .val (.int x2), .val (.int x3), .val (.int x4), .val (.int x5), .val (.ref a2), .val (.ref a9), .val (.int (Int32.ofNat k)), .val (.int (Int32.ofNat k)), .val (.int (Int32.ofNat (own_it ns k 1))), .val (.int (Int32.ofNat (own_it ns k 2))), .val (.int (Int32.ofNat (own_it ns k 3))), .unset, .unset, .unset, .unset]) at_187 rfl (pc' := 189) rfl ?_
    refine o_aload W15 at_189 (v := (.ref a9)) rfl rfl (pc' := 191) rfl ?_
    refine o_iload W15 at_191 (v := (Int32.ofNat (own_it ns k 3))) rfl (pc' := 193) rfl ?_
    refine o_iaload W15 AF at_193 (pc' := 194) rfl (i := (own_it ns k 3)) (v := (Int32.ofNat (own_it ns k 4))) ht3 (own_ld 0 (by omega)) ?_
    refine o_istore W15 (L' := #[.val (.int x0), .val (.int x1), .val (.int x2), .val (.int x3), .val (.int x4), .val (.int x5), .val (.ref a2), .val (.ref a9), .val (.int (Int32.ofNat k)), .val (.int (Int32.ofNat k)), .val (.int (Int32.ofNat (own_it ns k 1))), .val (.int (Int32.ofNat (own_it ns k 2))), .val (.int (Int32.ofNat (own_it ns k 3))), .val (.int (Int32.ofNat (own_it ns k 4))), .unset, .unset, .unset]) at_194 rfl (pc' := 196) rfl ?_
    refine o_aload W15 at_196 (v := (.ref a9)) rfl rfl (pc' := 198) rfl ?_
    refine o_iload W15 at_198 (v := (Int32.ofNat (own_it ns k 4))) rfl (pc' := 200) rfl ?_
    refine o_iaload W15 AF at_200 (pc' := 201) rfl (i := (own_it ns k 4)) (v := (Int32.ofNat (own_it ns k 5))) ht4 (own_ld 0 (by omega)) ?_
    refine o_istore W15 (L' := #[.val (.int x0), .val (.int x1), .val (.int x2), .val (.int x3), .val (.int x4), .val (.int x5), .val (.ref a2), .val (.ref a9), .val (.int (Int32.ofNat k)), .val (.int (Int32.ofNat k)), .val (.int (Int32.ofNat (own_it ns k 1))), .val (.int (Int32.ofNat (own_it ns k 2))), .val (.int (Int32.ofNat (own_it ns k 3))), .val (.int (Int32.ofNat (own_it ns k 4))), .val (.int (Int32.ofNat (own_it ns k 5))), .unset, .unset]) at_201 rfl (pc' := 203) rfl ?_
    refine o_iconst W15 (v := (5 : Int32)) at_203 rfl (pc' := 204) rfl ?_
    refine o_newarray W15 (ty := .int) (len := 5) (cap := 5) (ow hw 0 rfl) rfl rfl rfl at_204 (pc' := 206) rfl rfl (by decide) (by decide) (by decide) (by decide) (kk' := 3) rfl (nn' := 15) rfl ?_
    intro T17 h17 a16 W17 E17 g_a16 A_a16
    have b_a16 : n0 ≤ a16 := by rw [g_a16]; exact W15.le
    have ne_a9_a16 : a9 ≠ a16 := Nat.ne_of_lt (Nat.lt_of_lt_of_le AF.lt (Nat.le_of_eq g_a16.symm))
    have A_a9_17 := AF.ext E17
    have A_a16 : OA Z h17 a16 .int [0, 0, 0, 0, 0] := A_a16
    refine o_astore W17 (L' := #[.val (.int x0), .val (.int x1), .val (.int x2), .val (.int x3), .val (.int x4), .val (.int x5), .val (.ref a2), .val (.ref a9), .val (.int (Int32.ofNat k)), .val (.int (Int32.ofNat k)), .val (.int (Int32.ofNat (own_it ns k 1))), .val (.int (Int32.ofNat (own_it ns k 2))), .val (.int (Int32.ofNat (own_it ns k 3))), .val (.int (Int32.ofNat (own_it ns k 4))), .val (.int (Int32.ofNat (own_it ns k 5))), .val (.ref a16), .unset]) at_206 rfl rfl (pc' := 208) rfl ?_
    refine o_aload W17 at_208 (v := (.ref a16)) rfl rfl (pc' := 210) rfl ?_
    refine o_iconst W17 (v := (0 : Int32)) at_210 rfl (pc' := 211) rfl ?_
    refine o_aload W17 at_211 (v := (.ref a9)) rfl rfl (pc' := 213) rfl ?_
    refine o_iconst W17 (v := (0 : Int32)) at_213 rfl (pc' := 214) rfl ?_
    refine o_iaload W17 A_a9_17 at_214 (pc' := 215) rfl (i := 0) (v := (Int32.ofNat (ns.getD 0 0))) rfl (own_ld 0 (by rw [hlen]; decide)) ?_
    refine o_iastore W17 A_a16 b_a16 at_215 (pc' := 216) rfl (i := 0) rfl (Nat.le_of_ble_eq_true rfl) ?_
    intro T18 h18 W18 K18 A_a16_18
    have A_a9_18 := A_a9_17.keep1 K18 ne_a9_a16
    have A_a16_18 : OA Z h18 a16 .int [(Int32.ofNat (ns.getD 0 0)), 0, 0, 0, 0] := A_a16_18
    refine o_aload W18 at_216 (v := (.ref a16)) rfl rfl (pc' := 218) rfl ?_
    refine o_iconst W18 (v := (1 : Int32)) at_218 rfl (pc' := 219) rfl ?_
    refine o_aload W18 at_219 (v := (.ref a9)) rfl rfl (pc' := 221) rfl ?_
    refine o_iconst W18 (v := (1 : Int32)) at_221 rfl (pc' := 222) rfl ?_
    refine o_iaload W18 A_a9_18 at_222 (pc' := 223) rfl (i := 1) (v := (Int32.ofNat (ns.getD 1 0))) rfl (own_ld 0 (by rw [hlen]; decide)) ?_
    refine o_iastore W18 A_a16_18 b_a16 at_223 (pc' := 224) rfl (i := 1) rfl (Nat.le_of_ble_eq_true rfl) ?_
    intro T19 h19 W19 K19 A_a16_19
    have A_a9_19 := A_a9_18.keep1 K19 ne_a9_a16
    have A_a16_19 : OA Z h19 a16 .int [(Int32.ofNat (ns.getD 0 0)), (Int32.ofNat (ns.getD 1 0)), 0, 0, 0] := A_a16_19
    refine o_aload W19 at_224 (v := (.ref a16)) rfl rfl (pc' := 226) rfl ?_
    refine o_iconst W19 (v := (2 : Int32)) at_226 rfl (pc' := 227) rfl ?_
    refine o_aload W19 at_227 (v := (.ref a9)) rfl rfl (pc' := 229) rfl ?_
    refine o_iconst W19 (v := (2 : Int32)) at_229 rfl (pc' := 230) rfl ?_
    refine o_iaload W19 A_a9_19 at_230 (pc' := 231) rfl (i := 2) (v := (Int32.ofNat (ns.getD 2 0))) rfl (own_ld 0 (by rw [hlen]; decide)) ?_
    refine o_iastore W19 A_a16_19 b_a16 at_231 (pc' := 232) rfl (i := 2) rfl (Nat.le_of_ble_eq_true rfl) ?_
    intro T20 h20 W20 K20 A_a16_20
    have A_a9_20 := A_a9_19.keep1 K20 ne_a9_a16
    have A_a16_20 : OA Z h20 a16 .int [(Int32.ofNat (ns.getD 0 0)), (Int32.ofNat (ns.getD 1 0)), (Int32.ofNat (ns.getD 2 0)), 0, 0] := A_a16_20
    refine o_aload W20 at_232 (v := (.ref a16)) rfl rfl (pc' := 234) rfl ?_
    refine o_iconst W20 (v := (3 : Int32)) at_234 rfl (pc' := 235) rfl ?_
    refine o_aload W20 at_235 (v := (.ref a9)) rfl rfl (pc' := 237) rfl ?_
    refine o_iconst W20 (v := (3 : Int32)) at_237 rfl (pc' := 238) rfl ?_
    refine o_iaload W20 A_a9_20 at_238 (pc' := 239) rfl (i := 3) (v := (Int32.ofNat (ns.getD 3 0))) rfl (own_ld 0 (by rw [hlen]; decide)) ?_
    refine o_iastore W20 A_a16_20 b_a16 at_239 (pc' := 240) rfl (i := 3) rfl (Nat.le_of_ble_eq_true rfl) ?_
    intro T21 h21 W21 K21 A_a16_21
    have A_a9_21 := A_a9_20.keep1 K21 ne_a9_a16
    have A_a16_21 : OA Z h21 a16 .int [(Int32.ofNat (ns.getD 0 0)), (Int32.ofNat (ns.getD 1 0)), (Int32.ofNat (ns.getD 2 0)), (Int32.ofNat (ns.getD 3 0)), 0] := A_a16_21
    refine o_aload W21 at_240 (v := (.ref a16)) rfl rfl (pc' := 242) rfl ?_
    refine o_iconst W21 (v := (4 : Int32)) at_242 rfl (pc' := 243) rfl ?_
    refine o_aload W21 at_243 (v := (.ref a9)) rfl rfl (pc' := 245) rfl ?_
    refine o_iconst W21 (v := (4 : Int32)) at_245 rfl (pc' := 246) rfl ?_
    refine o_iaload W21 A_a9_21 at_246 (pc' := 247) rfl (i := 4) (v := (Int32.ofNat (ns.getD 4 0))) rfl (own_ld 0 (by rw [hlen]; decide)) ?_
    refine o_iastore W21 A_a16_21 b_a16 at_247 (pc' := 248) rfl (i := 4) rfl (Nat.le_of_ble_eq_true rfl) ?_
    intro T22 h22 W22 K22 A_a16_22
    have A_a9_22 := A_a9_21.keep1 K22 ne_a9_a16
    have A_a16_22 : OA Z h22 a16 .int [(Int32.ofNat (ns.getD 0 0)), (Int32.ofNat (ns.getD 1 0)), (Int32.ofNat (ns.getD 2 0)), (Int32.ofNat (ns.getD 3 0)), (Int32.ofNat (ns.getD 4 0))] := A_a16_22
    have AG : OA Z h22 a16 .int (ns.map Int32.ofNat) := by rw [own_five hlen]; exact A_a16_22
    refine o_aload W22 at_248 (v := (.ref a16)) rfl rfl (pc' := 250) rfl ?_
    refine o_iload W22 at_250 (v := (Int32.ofNat k)) rfl (pc' := 252) rfl ?_
    refine o_callSI W22 (rm1 l Z a0 hw a16 k h22 n0 W22.le ns AG b_a16 hgood) (ow hw 2 rfl) (ow hw 3 rfl) (ow hw 4 rfl) (ow hw 5 rfl) (by decide) (argsL := [(.ref a16), (.int (Int32.ofNat k))]) (S := []) (lenOf own_pd0 rfl) rfl rfl rfl (wt := 0) rfl (by decide) (by decide) (by decide) (by decide) (kk' := 3) rfl (nn' := 15) rfl at_252 (pc' := 255) rfl ?_
    intro r23 T23 h23 W23 q23 z23
    obtain ⟨hr, KP, AP⟩ := q23
    have AF_23 := A_a9_22.keep1 KP ne_a9_a16
    refine o_istore W23 (L' := #[.val (.int x0), .val (.int x1), .val (.int x2), .val (.int x3), .val (.int x4), .val (.int x5), .val (.ref a2), .val (.ref a9), .val (.int (Int32.ofNat k)), .val (.int (Int32.ofNat k)), .val (.int (Int32.ofNat (own_it ns k 1))), .val (.int (Int32.ofNat (own_it ns k 2))), .val (.int (Int32.ofNat (own_it ns k 3))), .val (.int (Int32.ofNat (own_it ns k 4))), .val (.int (Int32.ofNat (own_it ns k 5))), .val (.ref a16), .val (.int r23)]) at_255 rfl (pc' := 257) rfl ?_
    refine o_iload W23 at_257 (v := r23) rfl (pc' := 259) rfl ?_
    refine o_iload W23 at_259 (v := (Int32.ofNat (own_it ns k 5))) rfl (pc' := 261) rfl ?_
    refine o_icmp_eq W23 at_261 (by decide) (pq := 266) (by decide) (pc' := 264) rfl (fun hc261 => ?_) (fun hc261 => ?_)
    · refine o_aload W23 at_266 (v := (.ref a9)) rfl rfl (pc' := 268) rfl ?_
      refine o_aload W23 at_268 (v := (.ref a16)) rfl rfl (pc' := 270) rfl ?_
      refine o_iconst W23 (v := (0 : Int32)) at_270 rfl (pc' := 271) rfl ?_
      refine o_iload W23 at_271 (v := (Int32.ofNat (own_it ns k 5))) rfl (pc' := 273) rfl ?_
      refine o_iload W23 at_273 (v := (Int32.ofNat k)) rfl (pc' := 275) rfl ?_
      refine o_iload W23 at_275 (v := (Int32.ofNat (own_it ns k 1))) rfl (pc' := 277) rfl ?_
      refine o_iload W23 at_277 (v := (Int32.ofNat (own_it ns k 2))) rfl (pc' := 279) rfl ?_
      refine o_iload W23 at_279 (v := (Int32.ofNat (own_it ns k 3))) rfl (pc' := 281) rfl ?_
      obtain ⟨fw0, gw0, hfw0, hgw0, hca0, hcb0⟩ := own_cp hgood 0 (by decide) (0 : Int32) rfl
      refine o_callSI W23 (rm2 l Z a0 hw a9 a16 (0 : Int32) (Int32.ofNat (own_it ns k 5)) (Int32.ofNat k) (Int32.ofNat (own_it ns k 1)) (Int32.ofNat (own_it ns k 2)) (Int32.ofNat (own_it ns k 3)) h23 n0 W23.le _ _ fw0 gw0 0 AF_23 AP rfl hfw0 hgw0 hca0 hcb0) (ow hw 6 rfl) (ow hw 7 rfl) (ow hw 8 rfl) (ow hw 9 rfl) (by decide) (argsL := [(.ref a9), (.ref a16), (.int (0 : Int32)), (.int (Int32.ofNat (own_it ns k 5))), (.int (Int32.ofNat k)), (.int (Int32.ofNat (own_it ns k 1))), (.int (Int32.ofNat (own_it ns k 2))), (.int (Int32.ofNat (own_it ns k 3)))]) (S := []) (lenOf own_pd1 rfl) rfl rfl rfl (wt := 0) rfl (by decide) (by decide) (by decide) (by decide) (kk' := 3) rfl (nn' := 15) rfl at_281 (pc' := 284) rfl ?_
      intro r24 T24 h24 W24 q24 z24
      obtain ⟨q24, rfl⟩ := q24
      have hr24 : r24.toInt = 1 := by rw [q24]; rfl
      refine o_if_eq W24 at_284 (by decide) (pq := 375) (by decide) (pc' := 287) rfl (fun hc284 => ?_) (fun hc284 => ?_)
      · exfalso; omega
      · refine o_aload W24 at_287 (v := (.ref a9)) rfl rfl (pc' := 289) rfl ?_
        refine o_aload W24 at_289 (v := (.ref a16)) rfl rfl (pc' := 291) rfl ?_
        refine o_iconst W24 (v := (1 : Int32)) at_291 rfl (pc' := 292) rfl ?_
        refine o_iload W24 at_292 (v := (Int32.ofNat (own_it ns k 5))) rfl (pc' := 294) rfl ?_
        refine o_iload W24 at_294 (v := (Int32.ofNat k)) rfl (pc' := 296) rfl ?_
        refine o_iload W24 at_296 (v := (Int32.ofNat (own_it ns k 1))) rfl (pc' := 298) rfl ?_
        refine o_iload W24 at_298 (v := (Int32.ofNat (own_it ns k 2))) rfl (pc' := 300) rfl ?_
        refine o_iload W24 at_300 (v := (Int32.ofNat (own_it ns k 3))) rfl (pc' := 302) rfl ?_
        obtain ⟨fw1, gw1, hfw1, hgw1, hca1, hcb1⟩ := own_cp hgood 1 (by decide) (1 : Int32) rfl
        refine o_callSI W24 (rm2 l Z a0 hw a9 a16 (1 : Int32) (Int32.ofNat (own_it ns k 5)) (Int32.ofNat k) (Int32.ofNat (own_it ns k 1)) (Int32.ofNat (own_it ns k 2)) (Int32.ofNat (own_it ns k 3)) h23 n0 W24.le _ _ fw1 gw1 1 AF_23 AP rfl hfw1 hgw1 hca1 hcb1) (ow hw 6 rfl) (ow hw 7 rfl) (ow hw 8 rfl) (ow hw 9 rfl) (by decide) (argsL := [(.ref a9), (.ref a16), (.int (1 : Int32)), (.int (Int32.ofNat (own_it ns k 5))), (.int (Int32.ofNat k)), (.int (Int32.ofNat (own_it ns k 1))), (.int (Int32.ofNat (own_it ns k 2))), (.int (Int32.ofNat (own_it ns k 3)))]) (S := []) (lenOf own_pd1 rfl) rfl rfl rfl (wt := 0) rfl (by decide) (by decide) (by decide) (by decide) (kk' := 3) rfl (nn' := 15) rfl at_302 (pc' := 305) rfl ?_
        intro r25 T25 h25 W25 q25 z25
        obtain ⟨q25, rfl⟩ := q25
        have hr25 : r25.toInt = 1 := by rw [q25]; rfl
        refine o_if_eq W25 at_305 (by decide) (pq := 375) (by decide) (pc' := 308) rfl (fun hc305 => ?_) (fun hc305 => ?_)
        · exfalso; omega
        · refine o_aload W25 at_308 (v := (.ref a9)) rfl rfl (pc' := 310) rfl ?_
          refine o_aload W25 at_310 (v := (.ref a16)) rfl rfl (pc' := 312) rfl ?_
          refine o_iconst W25 (v := (2 : Int32)) at_312 rfl (pc' := 313) rfl ?_
          refine o_iload W25 at_313 (v := (Int32.ofNat (own_it ns k 5))) rfl (pc' := 315) rfl ?_
          refine o_iload W25 at_315 (v := (Int32.ofNat k)) rfl (pc' := 317) rfl ?_
          refine o_iload W25 at_317 (v := (Int32.ofNat (own_it ns k 1))) rfl (pc' := 319) rfl ?_
          refine o_iload W25 at_319 (v := (Int32.ofNat (own_it ns k 2))) rfl (pc' := 321) rfl ?_
          refine o_iload W25 at_321 (v := (Int32.ofNat (own_it ns k 3))) rfl (pc' := 323) rfl ?_
          obtain ⟨fw2, gw2, hfw2, hgw2, hca2, hcb2⟩ := own_cp hgood 2 (by decide) (2 : Int32) rfl
          refine o_callSI W25 (rm2 l Z a0 hw a9 a16 (2 : Int32) (Int32.ofNat (own_it ns k 5)) (Int32.ofNat k) (Int32.ofNat (own_it ns k 1)) (Int32.ofNat (own_it ns k 2)) (Int32.ofNat (own_it ns k 3)) h23 n0 W25.le _ _ fw2 gw2 2 AF_23 AP rfl hfw2 hgw2 hca2 hcb2) (ow hw 6 rfl) (ow hw 7 rfl) (ow hw 8 rfl) (ow hw 9 rfl) (by decide) (argsL := [(.ref a9), (.ref a16), (.int (2 : Int32)), (.int (Int32.ofNat (own_it ns k 5))), (.int (Int32.ofNat k)), (.int (Int32.ofNat (own_it ns k 1))), (.int (Int32.ofNat (own_it ns k 2))), (.int (Int32.ofNat (own_it ns k 3)))]) (S := []) (lenOf own_pd1 rfl) rfl rfl rfl (wt := 0) rfl (by decide) (by decide) (by decide) (by decide) (kk' := 3) rfl (nn' := 15) rfl at_323 (pc' := 326) rfl ?_
          intro r26 T26 h26 W26 q26 z26
          obtain ⟨q26, rfl⟩ := q26
          have hr26 : r26.toInt = 1 := by rw [q26]; rfl
          refine o_if_eq W26 at_326 (by decide) (pq := 375) (by decide) (pc' := 329) rfl (fun hc326 => ?_) (fun hc326 => ?_)
          · exfalso; omega
          · refine o_aload W26 at_329 (v := (.ref a9)) rfl rfl (pc' := 331) rfl ?_
            refine o_aload W26 at_331 (v := (.ref a16)) rfl rfl (pc' := 333) rfl ?_
            refine o_iconst W26 (v := (3 : Int32)) at_333 rfl (pc' := 334) rfl ?_
            refine o_iload W26 at_334 (v := (Int32.ofNat (own_it ns k 5))) rfl (pc' := 336) rfl ?_
            refine o_iload W26 at_336 (v := (Int32.ofNat k)) rfl (pc' := 338) rfl ?_
            refine o_iload W26 at_338 (v := (Int32.ofNat (own_it ns k 1))) rfl (pc' := 340) rfl ?_
            refine o_iload W26 at_340 (v := (Int32.ofNat (own_it ns k 2))) rfl (pc' := 342) rfl ?_
            refine o_iload W26 at_342 (v := (Int32.ofNat (own_it ns k 3))) rfl (pc' := 344) rfl ?_
            obtain ⟨fw3, gw3, hfw3, hgw3, hca3, hcb3⟩ := own_cp hgood 3 (by decide) (3 : Int32) rfl
            refine o_callSI W26 (rm2 l Z a0 hw a9 a16 (3 : Int32) (Int32.ofNat (own_it ns k 5)) (Int32.ofNat k) (Int32.ofNat (own_it ns k 1)) (Int32.ofNat (own_it ns k 2)) (Int32.ofNat (own_it ns k 3)) h23 n0 W26.le _ _ fw3 gw3 3 AF_23 AP rfl hfw3 hgw3 hca3 hcb3) (ow hw 6 rfl) (ow hw 7 rfl) (ow hw 8 rfl) (ow hw 9 rfl) (by decide) (argsL := [(.ref a9), (.ref a16), (.int (3 : Int32)), (.int (Int32.ofNat (own_it ns k 5))), (.int (Int32.ofNat k)), (.int (Int32.ofNat (own_it ns k 1))), (.int (Int32.ofNat (own_it ns k 2))), (.int (Int32.ofNat (own_it ns k 3)))]) (S := []) (lenOf own_pd1 rfl) rfl rfl rfl (wt := 0) rfl (by decide) (by decide) (by decide) (by decide) (kk' := 3) rfl (nn' := 15) rfl at_344 (pc' := 347) rfl ?_
            intro r27 T27 h27 W27 q27 z27
            obtain ⟨q27, rfl⟩ := q27
            have hr27 : r27.toInt = 1 := by rw [q27]; rfl
            refine o_if_eq W27 at_347 (by decide) (pq := 375) (by decide) (pc' := 350) rfl (fun hc347 => ?_) (fun hc347 => ?_)
            · exfalso; omega
            · refine o_aload W27 at_350 (v := (.ref a9)) rfl rfl (pc' := 352) rfl ?_
              refine o_aload W27 at_352 (v := (.ref a16)) rfl rfl (pc' := 354) rfl ?_
              refine o_iconst W27 (v := (4 : Int32)) at_354 rfl (pc' := 355) rfl ?_
              refine o_iload W27 at_355 (v := (Int32.ofNat (own_it ns k 5))) rfl (pc' := 357) rfl ?_
              refine o_iload W27 at_357 (v := (Int32.ofNat k)) rfl (pc' := 359) rfl ?_
              refine o_iload W27 at_359 (v := (Int32.ofNat (own_it ns k 1))) rfl (pc' := 361) rfl ?_
              refine o_iload W27 at_361 (v := (Int32.ofNat (own_it ns k 2))) rfl (pc' := 363) rfl ?_
              refine o_iload W27 at_363 (v := (Int32.ofNat (own_it ns k 3))) rfl (pc' := 365) rfl ?_
              obtain ⟨fw4, gw4, hfw4, hgw4, hca4, hcb4⟩ := own_cp hgood 4 (by decide) (4 : Int32) rfl
              refine o_callSI W27 (rm2 l Z a0 hw a9 a16 (4 : Int32) (Int32.ofNat (own_it ns k 5)) (Int32.ofNat k) (Int32.ofNat (own_it ns k 1)) (Int32.ofNat (own_it ns k 2)) (Int32.ofNat (own_it ns k 3)) h23 n0 W27.le _ _ fw4 gw4 4 AF_23 AP rfl hfw4 hgw4 hca4 hcb4) (ow hw 6 rfl) (ow hw 7 rfl) (ow hw 8 rfl) (ow hw 9 rfl) (by decide) (argsL := [(.ref a9), (.ref a16), (.int (4 : Int32)), (.int (Int32.ofNat (own_it ns k 5))), (.int (Int32.ofNat k)), (.int (Int32.ofNat (own_it ns k 1))), (.int (Int32.ofNat (own_it ns k 2))), (.int (Int32.ofNat (own_it ns k 3)))]) (S := []) (lenOf own_pd1 rfl) rfl rfl rfl (wt := 0) rfl (by decide) (by decide) (by decide) (by decide) (kk' := 3) rfl (nn' := 15) rfl at_365 (pc' := 368) rfl ?_
              intro r28 T28 h28 W28 q28 z28
              obtain ⟨q28, rfl⟩ := q28
              have hr28 : r28.toInt = 1 := by rw [q28]; rfl
              refine o_if_eq W28 at_368 (by decide) (pq := 375) (by decide) (pc' := 371) rfl (fun hc368 => ?_) (fun hc368 => ?_)
              · exfalso; omega
              · refine o_iconst W28 (v := (1 : Int32)) at_371 rfl (pc' := 372) rfl ?_
                refine o_goto W28 at_372 (by decide) (pq := 376) (by decide) ?_
                refine o_retN W28 (t := .boolean) rfl (by simp) at_376 (by decide) (by decide) ?_
                exact rfl
    · exfalso
      exact hc261 (congrArg Int32.toInt hr)
  · refine o_aload W10 at_62 (v := (.ref a9)) rfl rfl (pc' := 64) rfl ?_
    refine o_iconst W10 (v := (4 : Int32)) at_64 rfl (pc' := 65) rfl ?_
    refine o_iconst W10 (v := (4 : Int32)) at_65 rfl (pc' := 66) rfl ?_
    refine o_aload W10 at_66 (v := (.ref a2)) rfl rfl (pc' := 68) rfl ?_
    refine o_iconst W10 (v := (0 : Int32)) at_68 rfl (pc' := 69) rfl ?_
    refine o_iaload W10 A_a2_10 at_69 (pc' := 70) rfl (i := 0) (v := (0 : Int32)) rfl rfl ?_
    refine o_isub W10 at_70 (pc' := 71) rfl ?_
    refine o_iastore W10 A_a9 b_a9 at_71 (pc' := 72) rfl (i := 4) rfl (Nat.le_of_ble_eq_true rfl) ?_
    intro T29 h29 W29 K29 A_a9_29
    have A_a2_29 := A_a2_10.keep1 K29 ne_a2_a9
    have A_a9_29 : OA Z h29 a9 .int [0, 0, 0, 0, ((4 : Int32) - (0 : Int32))] := A_a9_29
    refine o_aload W29 at_72 (v := (.ref a9)) rfl rfl (pc' := 74) rfl ?_
    refine o_iconst W29 (v := (3 : Int32)) at_74 rfl (pc' := 75) rfl ?_
    refine o_iconst W29 (v := (4 : Int32)) at_75 rfl (pc' := 76) rfl ?_
    refine o_aload W29 at_76 (v := (.ref a2)) rfl rfl (pc' := 78) rfl ?_
    refine o_iconst W29 (v := (1 : Int32)) at_78 rfl (pc' := 79) rfl ?_
    refine o_iaload W29 A_a2_29 at_79 (pc' := 80) rfl (i := 1) (v := (Int32.ofNat n1)) rfl rfl ?_
    refine o_isub W29 at_80 (pc' := 81) rfl ?_
    rw [own_flip (n := n1) (by omega)]
    refine o_iastore W29 A_a9_29 b_a9 at_81 (pc' := 82) rfl (i := 3) rfl (Nat.le_of_ble_eq_true rfl) ?_
    intro T30 h30 W30 K30 A_a9_30
    have A_a2_30 := A_a2_29.keep1 K30 ne_a2_a9
    have A_a9_30 : OA Z h30 a9 .int [0, 0, 0, (Int32.ofNat (4 - n1)), ((4 : Int32) - (0 : Int32))] := A_a9_30
    refine o_aload W30 at_82 (v := (.ref a9)) rfl rfl (pc' := 84) rfl ?_
    refine o_iconst W30 (v := (2 : Int32)) at_84 rfl (pc' := 85) rfl ?_
    refine o_iconst W30 (v := (4 : Int32)) at_85 rfl (pc' := 86) rfl ?_
    refine o_aload W30 at_86 (v := (.ref a2)) rfl rfl (pc' := 88) rfl ?_
    refine o_iconst W30 (v := (2 : Int32)) at_88 rfl (pc' := 89) rfl ?_
    refine o_iaload W30 A_a2_30 at_89 (pc' := 90) rfl (i := 2) (v := (Int32.ofNat n2)) rfl rfl ?_
    refine o_isub W30 at_90 (pc' := 91) rfl ?_
    rw [own_flip (n := n2) (by omega)]
    refine o_iastore W30 A_a9_30 b_a9 at_91 (pc' := 92) rfl (i := 2) rfl (Nat.le_of_ble_eq_true rfl) ?_
    intro T31 h31 W31 K31 A_a9_31
    have A_a2_31 := A_a2_30.keep1 K31 ne_a2_a9
    have A_a9_31 : OA Z h31 a9 .int [0, 0, (Int32.ofNat (4 - n2)), (Int32.ofNat (4 - n1)), ((4 : Int32) - (0 : Int32))] := A_a9_31
    refine o_aload W31 at_92 (v := (.ref a9)) rfl rfl (pc' := 94) rfl ?_
    refine o_iconst W31 (v := (1 : Int32)) at_94 rfl (pc' := 95) rfl ?_
    refine o_iconst W31 (v := (4 : Int32)) at_95 rfl (pc' := 96) rfl ?_
    refine o_aload W31 at_96 (v := (.ref a2)) rfl rfl (pc' := 98) rfl ?_
    refine o_iconst W31 (v := (3 : Int32)) at_98 rfl (pc' := 99) rfl ?_
    refine o_iaload W31 A_a2_31 at_99 (pc' := 100) rfl (i := 3) (v := (Int32.ofNat n3)) rfl rfl ?_
    refine o_isub W31 at_100 (pc' := 101) rfl ?_
    rw [own_flip (n := n3) (by omega)]
    refine o_iastore W31 A_a9_31 b_a9 at_101 (pc' := 102) rfl (i := 1) rfl (Nat.le_of_ble_eq_true rfl) ?_
    intro T32 h32 W32 K32 A_a9_32
    have A_a2_32 := A_a2_31.keep1 K32 ne_a2_a9
    have A_a9_32 : OA Z h32 a9 .int [0, (Int32.ofNat (4 - n3)), (Int32.ofNat (4 - n2)), (Int32.ofNat (4 - n1)), ((4 : Int32) - (0 : Int32))] := A_a9_32
    refine o_aload W32 at_102 (v := (.ref a9)) rfl rfl (pc' := 104) rfl ?_
    refine o_iconst W32 (v := (0 : Int32)) at_104 rfl (pc' := 105) rfl ?_
    refine o_iconst W32 (v := (4 : Int32)) at_105 rfl (pc' := 106) rfl ?_
    refine o_aload W32 at_106 (v := (.ref a2)) rfl rfl (pc' := 108) rfl ?_
    refine o_iconst W32 (v := (4 : Int32)) at_108 rfl (pc' := 109) rfl ?_
    refine o_iaload W32 A_a2_32 at_109 (pc' := 110) rfl (i := 4) (v := (Int32.ofNat n4)) rfl rfl ?_
    refine o_isub W32 at_110 (pc' := 111) rfl ?_
    rw [own_flip (n := n4) (by omega)]
    refine o_iastore W32 A_a9_32 b_a9 at_111 (pc' := 112) rfl (i := 0) rfl (Nat.le_of_ble_eq_true rfl) ?_
    intro T33 h33 W33 K33 A_a9_33
    have A_a2_33 := A_a2_32.keep1 K33 ne_a2_a9
    have A_a9_33 : OA Z h33 a9 .int [(Int32.ofNat (4 - n4)), (Int32.ofNat (4 - n3)), (Int32.ofNat (4 - n2)), (Int32.ofNat (4 - n1)), ((4 : Int32) - (0 : Int32))] := A_a9_33
    refine o_goto W33 at_112 (by decide) (pq := 155) (by decide) ?_
    refine o_iload W33 at_155 (v := x4) rfl (pc' := 157) rfl ?_
    refine o_ldc W33 (ow hw 1 rfl) at_157 (pc' := 159) rfl ?_
    refine o_iand W33 at_159 (pc' := 160) rfl ?_
    refine o_iconst W33 (v := (5 : Int32)) at_160 rfl (pc' := 161) rfl ?_
    refine o_irem W33 at_161 (by decide) (pc' := 162) rfl ?_
    obtain ⟨k, hk, hlt_k⟩ := own_ixn (own_and31 x4) (y := 5) (n := 5) rfl (by decide) (by decide)
    rw [hk]
    refine o_istore W33 (L' := #[.val (.int x0), .val (.int x1), .val (.int x2), .val (.int x3), .val (.int x4), .val (.int x5), .val (.ref a2), .val (.ref a9), .val (.int (Int32.ofNat k)), .unset, .unset, .unset, .unset, .unset, .unset, .unset, .unset]) at_162 rfl (pc' := 164) rfl ?_
    have AF : OA Z h33 a9 .int (([4 - n4, 4 - n3, 4 - n2, 4 - n1, 4] : List Nat).map Int32.ofNat) := A_a9_33
    obtain ⟨ns, hns⟩ : ∃ ns : List Nat, ns = [4 - n4, 4 - n3, 4 - n2, 4 - n1, 4] := ⟨_, rfl⟩
    rw [← hns] at AF
    have hgood : own_goodB ns k = true := by rw [hns]; exact (own_all ⟨n1, hlt_n1⟩ ⟨n2, hlt_n2⟩ ⟨n3, hlt_n3⟩ ⟨n4, hlt_n4⟩ ⟨k, hlt_k⟩).2
    obtain ⟨hlen, hlt, hfix, hgl, hfour, hG, hcell⟩ := own_unpack hgood
    have ht0 := own_ofNat (t := own_it ns k 0) (by have := hlt 0 (by decide); omega)
    have ht1 := own_ofNat (t := own_it ns k 1) (by have := hlt 1 (by decide); omega)
    have ht2 := own_ofNat (t := own_it ns k 2) (by have := hlt 2 (by decide); omega)
    have ht3 := own_ofNat (t := own_it ns k 3) (by have := hlt 3 (by decide); omega)
    have ht4 := own_ofNat (t := own_it ns k 4) (by have := hlt 4 (by decide); omega)
    have ht5 := own_ofNat (t := own_it ns k 5) (by have := hlt 5 (by decide); omega)
    have hl0 := hlt 0 (by decide)
    have hl1 := hlt 1 (by decide)
    have hl2 := hlt 2 (by decide)
    have hl3 := hlt 3 (by decide)
    have hl4 := hlt 4 (by decide)
    have hl5 := hlt 5 (by decide)
    refine o_iload W33 at_164 (v := (Int32.ofNat k)) rfl (pc' := 166) rfl ?_
    refine o_istore W33 (L' := #[.val (.int x0), .val (.int x1), .val (.int x2), .val (.int x3), .val (.int x4), .val (.int x5), .val (.ref a2), .val (.ref a9), .val (.int (Int32.ofNat k)), .val (.int (Int32.ofNat k)), .unset, .unset, .unset, .unset, .unset, .unset, .unset]) at_166 rfl (pc' := 168) rfl ?_
    refine o_aload W33 at_168 (v := (.ref a9)) rfl rfl (pc' := 170) rfl ?_
    refine o_iload W33 at_170 (v := (Int32.ofNat k)) rfl (pc' := 172) rfl ?_
    refine o_iaload W33 AF at_172 (pc' := 173) rfl (i := (own_it ns k 0)) (v := (Int32.ofNat (own_it ns k 1))) ht0 (own_ld 0 (by omega)) ?_
    refine o_istore W33 (L' := #[.val (.int x0), .val (.int x1), .val (.int x2), .val (.int x3), .val (.int x4), .val (.int x5), .val (.ref a2), .val (.ref a9), .val (.int (Int32.ofNat k)), .val (.int (Int32.ofNat k)), .val (.int (Int32.ofNat (own_it ns k 1))), .unset, .unset, .unset, .unset, .unset, .unset]) at_173 rfl (pc' := 175) rfl ?_
    refine o_aload W33 at_175 (v := (.ref a9)) rfl rfl (pc' := 177) rfl ?_
    refine o_iload W33 at_177 (v := (Int32.ofNat (own_it ns k 1))) rfl (pc' := 179) rfl ?_
    refine o_iaload W33 AF at_179 (pc' := 180) rfl (i := (own_it ns k 1)) (v := (Int32.ofNat (own_it ns k 2))) ht1 (own_ld 0 (by omega)) ?_
    refine o_istore W33 (L' := #[.val (.int x0), .val (.int x1), .val (.int x2), .val (.int x3), .val (.int x4), .val (.int x5), .val (.ref a2), .val (.ref a9), .val (.int (Int32.ofNat k)), .val (.int (Int32.ofNat k)), .val (.int (Int32.ofNat (own_it ns k 1))), .val (.int (Int32.ofNat (own_it ns k 2))), .unset, .unset, .unset, .unset, .unset]) at_180 rfl (pc' := 182) rfl ?_
    refine o_aload W33 at_182 (v := (.ref a9)) rfl rfl (pc' := 184) rfl ?_
    refine o_iload W33 at_184 (v := (Int32.ofNat (own_it ns k 2))) rfl (pc' := 186) rfl ?_
    refine o_iaload W33 AF at_186 (pc' := 187) rfl (i := (own_it ns k 2)) (v := (Int32.ofNat (own_it ns k 3))) ht2 (own_ld 0 (by omega)) ?_
    refine o_istore W33 (L' := #[.val (.int x0), .val (.int x1), .val (.int x2), .val (.int x3), .val (.int x4), .val (.int x5), .val (.ref a2), .val (.ref a9), .val (.int (Int32.ofNat k)), .val (.int (Int32.ofNat k)), .val (.int (Int32.ofNat (own_it ns k 1))), .val (.int (Int32.ofNat (own_it ns k 2))), .val (.int (Int32.ofNat (own_it ns k 3))), .unset, .unset, .unset, .unset]) at_187 rfl (pc' := 189) rfl ?_
    refine o_aload W33 at_189 (v := (.ref a9)) rfl rfl (pc' := 191) rfl ?_
    refine o_iload W33 at_191 (v := (Int32.ofNat (own_it ns k 3))) rfl (pc' := 193) rfl ?_
    refine o_iaload W33 AF at_193 (pc' := 194) rfl (i := (own_it ns k 3)) (v := (Int32.ofNat (own_it ns k 4))) ht3 (own_ld 0 (by omega)) ?_
    refine o_istore W33 (L' := #[.val (.int x0), .val (.int x1), .val (.int x2), .val (.int x3), .val (.int x4), .val (.int x5), .val (.ref a2), .val (.ref a9), .val (.int (Int32.ofNat k)), .val (.int (Int32.ofNat k)), .val (.int (Int32.ofNat (own_it ns k 1))), .val (.int (Int32.ofNat (own_it ns k 2))), .val (.int (Int32.ofNat (own_it ns k 3))), .val (.int (Int32.ofNat (own_it ns k 4))), .unset, .unset, .unset]) at_194 rfl (pc' := 196) rfl ?_
    refine o_aload W33 at_196 (v := (.ref a9)) rfl rfl (pc' := 198) rfl ?_
    refine o_iload W33 at_198 (v := (Int32.ofNat (own_it ns k 4))) rfl (pc' := 200) rfl ?_
    refine o_iaload W33 AF at_200 (pc' := 201) rfl (i := (own_it ns k 4)) (v := (Int32.ofNat (own_it ns k 5))) ht4 (own_ld 0 (by omega)) ?_
    refine o_istore W33 (L' := #[.val (.int x0), .val (.int x1), .val (.int x2), .val (.int x3), .val (.int x4), .val (.int x5), .val (.ref a2), .val (.ref a9), .val (.int (Int32.ofNat k)), .val (.int (Int32.ofNat k)), .val (.int (Int32.ofNat (own_it ns k 1))), .val (.int (Int32.ofNat (own_it ns k 2))), .val (.int (Int32.ofNat (own_it ns k 3))), .val (.int (Int32.ofNat (own_it ns k 4))), .val (.int (Int32.ofNat (own_it ns k 5))), .unset, .unset]) at_201 rfl (pc' := 203) rfl ?_
    refine o_iconst W33 (v := (5 : Int32)) at_203 rfl (pc' := 204) rfl ?_
    refine o_newarray W33 (ty := .int) (len := 5) (cap := 5) (ow hw 0 rfl) rfl rfl rfl at_204 (pc' := 206) rfl rfl (by decide) (by decide) (by decide) (by decide) (kk' := 3) rfl (nn' := 15) rfl ?_
    intro T35 h35 a34 W35 E35 g_a34 A_a34
    have b_a34 : n0 ≤ a34 := by rw [g_a34]; exact W33.le
    have ne_a9_a34 : a9 ≠ a34 := Nat.ne_of_lt (Nat.lt_of_lt_of_le AF.lt (Nat.le_of_eq g_a34.symm))
    have A_a9_35 := AF.ext E35
    have A_a34 : OA Z h35 a34 .int [0, 0, 0, 0, 0] := A_a34
    refine o_astore W35 (L' := #[.val (.int x0), .val (.int x1), .val (.int x2), .val (.int x3), .val (.int x4), .val (.int x5), .val (.ref a2), .val (.ref a9), .val (.int (Int32.ofNat k)), .val (.int (Int32.ofNat k)), .val (.int (Int32.ofNat (own_it ns k 1))), .val (.int (Int32.ofNat (own_it ns k 2))), .val (.int (Int32.ofNat (own_it ns k 3))), .val (.int (Int32.ofNat (own_it ns k 4))), .val (.int (Int32.ofNat (own_it ns k 5))), .val (.ref a34), .unset]) at_206 rfl rfl (pc' := 208) rfl ?_
    refine o_aload W35 at_208 (v := (.ref a34)) rfl rfl (pc' := 210) rfl ?_
    refine o_iconst W35 (v := (0 : Int32)) at_210 rfl (pc' := 211) rfl ?_
    refine o_aload W35 at_211 (v := (.ref a9)) rfl rfl (pc' := 213) rfl ?_
    refine o_iconst W35 (v := (0 : Int32)) at_213 rfl (pc' := 214) rfl ?_
    refine o_iaload W35 A_a9_35 at_214 (pc' := 215) rfl (i := 0) (v := (Int32.ofNat (ns.getD 0 0))) rfl (own_ld 0 (by rw [hlen]; decide)) ?_
    refine o_iastore W35 A_a34 b_a34 at_215 (pc' := 216) rfl (i := 0) rfl (Nat.le_of_ble_eq_true rfl) ?_
    intro T36 h36 W36 K36 A_a34_36
    have A_a9_36 := A_a9_35.keep1 K36 ne_a9_a34
    have A_a34_36 : OA Z h36 a34 .int [(Int32.ofNat (ns.getD 0 0)), 0, 0, 0, 0] := A_a34_36
    refine o_aload W36 at_216 (v := (.ref a34)) rfl rfl (pc' := 218) rfl ?_
    refine o_iconst W36 (v := (1 : Int32)) at_218 rfl (pc' := 219) rfl ?_
    refine o_aload W36 at_219 (v := (.ref a9)) rfl rfl (pc' := 221) rfl ?_
    refine o_iconst W36 (v := (1 : Int32)) at_221 rfl (pc' := 222) rfl ?_
    refine o_iaload W36 A_a9_36 at_222 (pc' := 223) rfl (i := 1) (v := (Int32.ofNat (ns.getD 1 0))) rfl (own_ld 0 (by rw [hlen]; decide)) ?_
    refine o_iastore W36 A_a34_36 b_a34 at_223 (pc' := 224) rfl (i := 1) rfl (Nat.le_of_ble_eq_true rfl) ?_
    intro T37 h37 W37 K37 A_a34_37
    have A_a9_37 := A_a9_36.keep1 K37 ne_a9_a34
    have A_a34_37 : OA Z h37 a34 .int [(Int32.ofNat (ns.getD 0 0)), (Int32.ofNat (ns.getD 1 0)), 0, 0, 0] := A_a34_37
    refine o_aload W37 at_224 (v := (.ref a34)) rfl rfl (pc' := 226) rfl ?_
    refine o_iconst W37 (v := (2 : Int32)) at_226 rfl (pc' := 227) rfl ?_
    refine o_aload W37 at_227 (v := (.ref a9)) rfl rfl (pc' := 229) rfl ?_
    refine o_iconst W37 (v := (2 : Int32)) at_229 rfl (pc' := 230) rfl ?_
    refine o_iaload W37 A_a9_37 at_230 (pc' := 231) rfl (i := 2) (v := (Int32.ofNat (ns.getD 2 0))) rfl (own_ld 0 (by rw [hlen]; decide)) ?_
    refine o_iastore W37 A_a34_37 b_a34 at_231 (pc' := 232) rfl (i := 2) rfl (Nat.le_of_ble_eq_true rfl) ?_
    intro T38 h38 W38 K38 A_a34_38
    have A_a9_38 := A_a9_37.keep1 K38 ne_a9_a34
    have A_a34_38 : OA Z h38 a34 .int [(Int32.ofNat (ns.getD 0 0)), (Int32.ofNat (ns.getD 1 0)), (Int32.ofNat (ns.getD 2 0)), 0, 0] := A_a34_38
    refine o_aload W38 at_232 (v := (.ref a34)) rfl rfl (pc' := 234) rfl ?_
    refine o_iconst W38 (v := (3 : Int32)) at_234 rfl (pc' := 235) rfl ?_
    refine o_aload W38 at_235 (v := (.ref a9)) rfl rfl (pc' := 237) rfl ?_
    refine o_iconst W38 (v := (3 : Int32)) at_237 rfl (pc' := 238) rfl ?_
    refine o_iaload W38 A_a9_38 at_238 (pc' := 239) rfl (i := 3) (v := (Int32.ofNat (ns.getD 3 0))) rfl (own_ld 0 (by rw [hlen]; decide)) ?_
    refine o_iastore W38 A_a34_38 b_a34 at_239 (pc' := 240) rfl (i := 3) rfl (Nat.le_of_ble_eq_true rfl) ?_
    intro T39 h39 W39 K39 A_a34_39
    have A_a9_39 := A_a9_38.keep1 K39 ne_a9_a34
    have A_a34_39 : OA Z h39 a34 .int [(Int32.ofNat (ns.getD 0 0)), (Int32.ofNat (ns.getD 1 0)), (Int32.ofNat (ns.getD 2 0)), (Int32.ofNat (ns.getD 3 0)), 0] := A_a34_39
    refine o_aload W39 at_240 (v := (.ref a34)) rfl rfl (pc' := 242) rfl ?_
    refine o_iconst W39 (v := (4 : Int32)) at_242 rfl (pc' := 243) rfl ?_
    refine o_aload W39 at_243 (v := (.ref a9)) rfl rfl (pc' := 245) rfl ?_
    refine o_iconst W39 (v := (4 : Int32)) at_245 rfl (pc' := 246) rfl ?_
    refine o_iaload W39 A_a9_39 at_246 (pc' := 247) rfl (i := 4) (v := (Int32.ofNat (ns.getD 4 0))) rfl (own_ld 0 (by rw [hlen]; decide)) ?_
    refine o_iastore W39 A_a34_39 b_a34 at_247 (pc' := 248) rfl (i := 4) rfl (Nat.le_of_ble_eq_true rfl) ?_
    intro T40 h40 W40 K40 A_a34_40
    have A_a9_40 := A_a9_39.keep1 K40 ne_a9_a34
    have A_a34_40 : OA Z h40 a34 .int [(Int32.ofNat (ns.getD 0 0)), (Int32.ofNat (ns.getD 1 0)), (Int32.ofNat (ns.getD 2 0)), (Int32.ofNat (ns.getD 3 0)), (Int32.ofNat (ns.getD 4 0))] := A_a34_40
    have AG : OA Z h40 a34 .int (ns.map Int32.ofNat) := by rw [own_five hlen]; exact A_a34_40
    refine o_aload W40 at_248 (v := (.ref a34)) rfl rfl (pc' := 250) rfl ?_
    refine o_iload W40 at_250 (v := (Int32.ofNat k)) rfl (pc' := 252) rfl ?_
    refine o_callSI W40 (rm1 l Z a0 hw a34 k h40 n0 W40.le ns AG b_a34 hgood) (ow hw 2 rfl) (ow hw 3 rfl) (ow hw 4 rfl) (ow hw 5 rfl) (by decide) (argsL := [(.ref a34), (.int (Int32.ofNat k))]) (S := []) (lenOf own_pd0 rfl) rfl rfl rfl (wt := 0) rfl (by decide) (by decide) (by decide) (by decide) (kk' := 3) rfl (nn' := 15) rfl at_252 (pc' := 255) rfl ?_
    intro r41 T41 h41 W41 q41 z41
    obtain ⟨hr, KP, AP⟩ := q41
    have AF_41 := A_a9_40.keep1 KP ne_a9_a34
    refine o_istore W41 (L' := #[.val (.int x0), .val (.int x1), .val (.int x2), .val (.int x3), .val (.int x4), .val (.int x5), .val (.ref a2), .val (.ref a9), .val (.int (Int32.ofNat k)), .val (.int (Int32.ofNat k)), .val (.int (Int32.ofNat (own_it ns k 1))), .val (.int (Int32.ofNat (own_it ns k 2))), .val (.int (Int32.ofNat (own_it ns k 3))), .val (.int (Int32.ofNat (own_it ns k 4))), .val (.int (Int32.ofNat (own_it ns k 5))), .val (.ref a34), .val (.int r41)]) at_255 rfl (pc' := 257) rfl ?_
    refine o_iload W41 at_257 (v := r41) rfl (pc' := 259) rfl ?_
    refine o_iload W41 at_259 (v := (Int32.ofNat (own_it ns k 5))) rfl (pc' := 261) rfl ?_
    refine o_icmp_eq W41 at_261 (by decide) (pq := 266) (by decide) (pc' := 264) rfl (fun hc261 => ?_) (fun hc261 => ?_)
    · refine o_aload W41 at_266 (v := (.ref a9)) rfl rfl (pc' := 268) rfl ?_
      refine o_aload W41 at_268 (v := (.ref a34)) rfl rfl (pc' := 270) rfl ?_
      refine o_iconst W41 (v := (0 : Int32)) at_270 rfl (pc' := 271) rfl ?_
      refine o_iload W41 at_271 (v := (Int32.ofNat (own_it ns k 5))) rfl (pc' := 273) rfl ?_
      refine o_iload W41 at_273 (v := (Int32.ofNat k)) rfl (pc' := 275) rfl ?_
      refine o_iload W41 at_275 (v := (Int32.ofNat (own_it ns k 1))) rfl (pc' := 277) rfl ?_
      refine o_iload W41 at_277 (v := (Int32.ofNat (own_it ns k 2))) rfl (pc' := 279) rfl ?_
      refine o_iload W41 at_279 (v := (Int32.ofNat (own_it ns k 3))) rfl (pc' := 281) rfl ?_
      obtain ⟨fw0, gw0, hfw0, hgw0, hca0, hcb0⟩ := own_cp hgood 0 (by decide) (0 : Int32) rfl
      refine o_callSI W41 (rm2 l Z a0 hw a9 a34 (0 : Int32) (Int32.ofNat (own_it ns k 5)) (Int32.ofNat k) (Int32.ofNat (own_it ns k 1)) (Int32.ofNat (own_it ns k 2)) (Int32.ofNat (own_it ns k 3)) h41 n0 W41.le _ _ fw0 gw0 0 AF_41 AP rfl hfw0 hgw0 hca0 hcb0) (ow hw 6 rfl) (ow hw 7 rfl) (ow hw 8 rfl) (ow hw 9 rfl) (by decide) (argsL := [(.ref a9), (.ref a34), (.int (0 : Int32)), (.int (Int32.ofNat (own_it ns k 5))), (.int (Int32.ofNat k)), (.int (Int32.ofNat (own_it ns k 1))), (.int (Int32.ofNat (own_it ns k 2))), (.int (Int32.ofNat (own_it ns k 3)))]) (S := []) (lenOf own_pd1 rfl) rfl rfl rfl (wt := 0) rfl (by decide) (by decide) (by decide) (by decide) (kk' := 3) rfl (nn' := 15) rfl at_281 (pc' := 284) rfl ?_
      intro r42 T42 h42 W42 q42 z42
      obtain ⟨q42, rfl⟩ := q42
      have hr42 : r42.toInt = 1 := by rw [q42]; rfl
      refine o_if_eq W42 at_284 (by decide) (pq := 375) (by decide) (pc' := 287) rfl (fun hc284 => ?_) (fun hc284 => ?_)
      · exfalso; omega
      · refine o_aload W42 at_287 (v := (.ref a9)) rfl rfl (pc' := 289) rfl ?_
        refine o_aload W42 at_289 (v := (.ref a34)) rfl rfl (pc' := 291) rfl ?_
        refine o_iconst W42 (v := (1 : Int32)) at_291 rfl (pc' := 292) rfl ?_
        refine o_iload W42 at_292 (v := (Int32.ofNat (own_it ns k 5))) rfl (pc' := 294) rfl ?_
        refine o_iload W42 at_294 (v := (Int32.ofNat k)) rfl (pc' := 296) rfl ?_
        refine o_iload W42 at_296 (v := (Int32.ofNat (own_it ns k 1))) rfl (pc' := 298) rfl ?_
        refine o_iload W42 at_298 (v := (Int32.ofNat (own_it ns k 2))) rfl (pc' := 300) rfl ?_
        refine o_iload W42 at_300 (v := (Int32.ofNat (own_it ns k 3))) rfl (pc' := 302) rfl ?_
        obtain ⟨fw1, gw1, hfw1, hgw1, hca1, hcb1⟩ := own_cp hgood 1 (by decide) (1 : Int32) rfl
        refine o_callSI W42 (rm2 l Z a0 hw a9 a34 (1 : Int32) (Int32.ofNat (own_it ns k 5)) (Int32.ofNat k) (Int32.ofNat (own_it ns k 1)) (Int32.ofNat (own_it ns k 2)) (Int32.ofNat (own_it ns k 3)) h41 n0 W42.le _ _ fw1 gw1 1 AF_41 AP rfl hfw1 hgw1 hca1 hcb1) (ow hw 6 rfl) (ow hw 7 rfl) (ow hw 8 rfl) (ow hw 9 rfl) (by decide) (argsL := [(.ref a9), (.ref a34), (.int (1 : Int32)), (.int (Int32.ofNat (own_it ns k 5))), (.int (Int32.ofNat k)), (.int (Int32.ofNat (own_it ns k 1))), (.int (Int32.ofNat (own_it ns k 2))), (.int (Int32.ofNat (own_it ns k 3)))]) (S := []) (lenOf own_pd1 rfl) rfl rfl rfl (wt := 0) rfl (by decide) (by decide) (by decide) (by decide) (kk' := 3) rfl (nn' := 15) rfl at_302 (pc' := 305) rfl ?_
        intro r43 T43 h43 W43 q43 z43
        obtain ⟨q43, rfl⟩ := q43
        have hr43 : r43.toInt = 1 := by rw [q43]; rfl
        refine o_if_eq W43 at_305 (by decide) (pq := 375) (by decide) (pc' := 308) rfl (fun hc305 => ?_) (fun hc305 => ?_)
        · exfalso; omega
        · refine o_aload W43 at_308 (v := (.ref a9)) rfl rfl (pc' := 310) rfl ?_
          refine o_aload W43 at_310 (v := (.ref a34)) rfl rfl (pc' := 312) rfl ?_
          refine o_iconst W43 (v := (2 : Int32)) at_312 rfl (pc' := 313) rfl ?_
          refine o_iload W43 at_313 (v := (Int32.ofNat (own_it ns k 5))) rfl (pc' := 315) rfl ?_
          refine o_iload W43 at_315 (v := (Int32.ofNat k)) rfl (pc' := 317) rfl ?_
          refine o_iload W43 at_317 (v := (Int32.ofNat (own_it ns k 1))) rfl (pc' := 319) rfl ?_
          refine o_iload W43 at_319 (v := (Int32.ofNat (own_it ns k 2))) rfl (pc' := 321) rfl ?_
          refine o_iload W43 at_321 (v := (Int32.ofNat (own_it ns k 3))) rfl (pc' := 323) rfl ?_
          obtain ⟨fw2, gw2, hfw2, hgw2, hca2, hcb2⟩ := own_cp hgood 2 (by decide) (2 : Int32) rfl
          refine o_callSI W43 (rm2 l Z a0 hw a9 a34 (2 : Int32) (Int32.ofNat (own_it ns k 5)) (Int32.ofNat k) (Int32.ofNat (own_it ns k 1)) (Int32.ofNat (own_it ns k 2)) (Int32.ofNat (own_it ns k 3)) h41 n0 W43.le _ _ fw2 gw2 2 AF_41 AP rfl hfw2 hgw2 hca2 hcb2) (ow hw 6 rfl) (ow hw 7 rfl) (ow hw 8 rfl) (ow hw 9 rfl) (by decide) (argsL := [(.ref a9), (.ref a34), (.int (2 : Int32)), (.int (Int32.ofNat (own_it ns k 5))), (.int (Int32.ofNat k)), (.int (Int32.ofNat (own_it ns k 1))), (.int (Int32.ofNat (own_it ns k 2))), (.int (Int32.ofNat (own_it ns k 3)))]) (S := []) (lenOf own_pd1 rfl) rfl rfl rfl (wt := 0) rfl (by decide) (by decide) (by decide) (by decide) (kk' := 3) rfl (nn' := 15) rfl at_323 (pc' := 326) rfl ?_
          intro r44 T44 h44 W44 q44 z44
          obtain ⟨q44, rfl⟩ := q44
          have hr44 : r44.toInt = 1 := by rw [q44]; rfl
          refine o_if_eq W44 at_326 (by decide) (pq := 375) (by decide) (pc' := 329) rfl (fun hc326 => ?_) (fun hc326 => ?_)
          · exfalso; omega
          · refine o_aload W44 at_329 (v := (.ref a9)) rfl rfl (pc' := 331) rfl ?_
            refine o_aload W44 at_331 (v := (.ref a34)) rfl rfl (pc' := 333) rfl ?_
            refine o_iconst W44 (v := (3 : Int32)) at_333 rfl (pc' := 334) rfl ?_
            refine o_iload W44 at_334 (v := (Int32.ofNat (own_it ns k 5))) rfl (pc' := 336) rfl ?_
            refine o_iload W44 at_336 (v := (Int32.ofNat k)) rfl (pc' := 338) rfl ?_
            refine o_iload W44 at_338 (v := (Int32.ofNat (own_it ns k 1))) rfl (pc' := 340) rfl ?_
            refine o_iload W44 at_340 (v := (Int32.ofNat (own_it ns k 2))) rfl (pc' := 342) rfl ?_
            refine o_iload W44 at_342 (v := (Int32.ofNat (own_it ns k 3))) rfl (pc' := 344) rfl ?_
            obtain ⟨fw3, gw3, hfw3, hgw3, hca3, hcb3⟩ := own_cp hgood 3 (by decide) (3 : Int32) rfl
            refine o_callSI W44 (rm2 l Z a0 hw a9 a34 (3 : Int32) (Int32.ofNat (own_it ns k 5)) (Int32.ofNat k) (Int32.ofNat (own_it ns k 1)) (Int32.ofNat (own_it ns k 2)) (Int32.ofNat (own_it ns k 3)) h41 n0 W44.le _ _ fw3 gw3 3 AF_41 AP rfl hfw3 hgw3 hca3 hcb3) (ow hw 6 rfl) (ow hw 7 rfl) (ow hw 8 rfl) (ow hw 9 rfl) (by decide) (argsL := [(.ref a9), (.ref a34), (.int (3 : Int32)), (.int (Int32.ofNat (own_it ns k 5))), (.int (Int32.ofNat k)), (.int (Int32.ofNat (own_it ns k 1))), (.int (Int32.ofNat (own_it ns k 2))), (.int (Int32.ofNat (own_it ns k 3)))]) (S := []) (lenOf own_pd1 rfl) rfl rfl rfl (wt := 0) rfl (by decide) (by decide) (by decide) (by decide) (kk' := 3) rfl (nn' := 15) rfl at_344 (pc' := 347) rfl ?_
            intro r45 T45 h45 W45 q45 z45
            obtain ⟨q45, rfl⟩ := q45
            have hr45 : r45.toInt = 1 := by rw [q45]; rfl
            refine o_if_eq W45 at_347 (by decide) (pq := 375) (by decide) (pc' := 350) rfl (fun hc347 => ?_) (fun hc347 => ?_)
            · exfalso; omega
            · refine o_aload W45 at_350 (v := (.ref a9)) rfl rfl (pc' := 352) rfl ?_
              refine o_aload W45 at_352 (v := (.ref a34)) rfl rfl (pc' := 354) rfl ?_
              refine o_iconst W45 (v := (4 : Int32)) at_354 rfl (pc' := 355) rfl ?_
              refine o_iload W45 at_355 (v := (Int32.ofNat (own_it ns k 5))) rfl (pc' := 357) rfl ?_
              refine o_iload W45 at_357 (v := (Int32.ofNat k)) rfl (pc' := 359) rfl ?_
              refine o_iload W45 at_359 (v := (Int32.ofNat (own_it ns k 1))) rfl (pc' := 361) rfl ?_
              refine o_iload W45 at_361 (v := (Int32.ofNat (own_it ns k 2))) rfl (pc' := 363) rfl ?_
              refine o_iload W45 at_363 (v := (Int32.ofNat (own_it ns k 3))) rfl (pc' := 365) rfl ?_
              obtain ⟨fw4, gw4, hfw4, hgw4, hca4, hcb4⟩ := own_cp hgood 4 (by decide) (4 : Int32) rfl
              refine o_callSI W45 (rm2 l Z a0 hw a9 a34 (4 : Int32) (Int32.ofNat (own_it ns k 5)) (Int32.ofNat k) (Int32.ofNat (own_it ns k 1)) (Int32.ofNat (own_it ns k 2)) (Int32.ofNat (own_it ns k 3)) h41 n0 W45.le _ _ fw4 gw4 4 AF_41 AP rfl hfw4 hgw4 hca4 hcb4) (ow hw 6 rfl) (ow hw 7 rfl) (ow hw 8 rfl) (ow hw 9 rfl) (by decide) (argsL := [(.ref a9), (.ref a34), (.int (4 : Int32)), (.int (Int32.ofNat (own_it ns k 5))), (.int (Int32.ofNat k)), (.int (Int32.ofNat (own_it ns k 1))), (.int (Int32.ofNat (own_it ns k 2))), (.int (Int32.ofNat (own_it ns k 3)))]) (S := []) (lenOf own_pd1 rfl) rfl rfl rfl (wt := 0) rfl (by decide) (by decide) (by decide) (by decide) (kk' := 3) rfl (nn' := 15) rfl at_365 (pc' := 368) rfl ?_
              intro r46 T46 h46 W46 q46 z46
              obtain ⟨q46, rfl⟩ := q46
              have hr46 : r46.toInt = 1 := by rw [q46]; rfl
              refine o_if_eq W46 at_368 (by decide) (pq := 375) (by decide) (pc' := 371) rfl (fun hc368 => ?_) (fun hc368 => ?_)
              · exfalso; omega
              · refine o_iconst W46 (v := (1 : Int32)) at_371 rfl (pc' := 372) rfl ?_
                refine o_goto W46 at_372 (by decide) (pq := 376) (by decide) ?_
                refine o_retN W46 (t := .boolean) rfl (by simp) at_376 (by decide) (by decide) ?_
                exact rfl
    · exfalso
      exact hc261 (congrArg Int32.toInt hr)
set_option maxRecDepth 65536 in
theorem comes_1 {Post : Tables → Env → Array Value → State → Outcome → State → Prop} (hpost : ∀ tb e args s v u, (limb_1_1.after args s (.returned v) u = true ∧ limb_1_2.after args s (.returned v) u = true ∧ True) → FrameEnd s (.returned v) u (Jvm.fieldLocs frame_1_writes args s ++ Jvm.arrayLocs frame_1_arrays args s ++ Jvm.staticLocs frame_1_statics s) 16 128 → Post tb e args s (.returned v) u) :
    ArmFor flags0 classFile x code maxLocals ret World_1 tables_1 room_1 Calls_1 rest_1 Pre_1 Post := by
  intro l hfl _ _ p e ha hc hk s m args below hf hA hF happ hP
  obtain ⟨hcalls, hrest, hpre⟩ := hP
  obtain ⟨-, -, -, hnamed, -, -, -, hat⟩ := (Spec.applies_iff hf).mp happ
  obtain ⟨hg, hn⟩ := and_e (Cond.before_iff.mp (show (Jvm.Cond.and given_1 narrow_1).before args s = true from hpre))
  obtain ⟨g0, hg1⟩ := and_e hg
  obtain ⟨q0, hg2⟩ := and_e hg1
  obtain ⟨q1, hg3⟩ := and_e hg2
  obtain ⟨q2, hg4⟩ := and_e hg3
  obtain ⟨q3, hg5⟩ := and_e hg4
  obtain ⟨q4, hg6⟩ := and_e hg5
  have q5 := hg6
  obtain ⟨w0, w1, w2, w3, w4, w5, rfl⟩ : ∃ w0 w1 w2 w3 w4 w5 : Value, args = #[w0, w1, w2, w3, w4, w5] := by
    have hs : args.size = 6 := by simpa [Cond.value, given_1] using g0
    obtain ⟨L⟩ := args
    match L, hs with
    | [w0, w1, w2, w3, w4, w5], _ => exact ⟨w0, w1, w2, w3, w4, w5, rfl⟩
  have hw := fun d (hd : d ∈ tables_1) => atoms_spec (ws := Jvm.Cond.code x code maxLocals ret :: tables_1) hat d (List.mem_cons_of_mem _ hd)
  obtain ⟨i0, ei0⟩ := is_v q0
  obtain rfl : w0 = (.int i0) := Option.some.inj ei0
  obtain ⟨i1, ei1⟩ := is_v q1
  obtain rfl : w1 = (.int i1) := Option.some.inj ei1
  obtain ⟨i2, ei2⟩ := is_v q2
  obtain rfl : w2 = (.int i2) := Option.some.inj ei2
  obtain ⟨i3, ei3⟩ := is_v q3
  obtain rfl : w3 = (.int i3) := Option.some.inj ei3
  obtain ⟨i4, ei4⟩ := is_v q4
  obtain rfl : w4 = (.int i4) := Option.some.inj ei4
  obtain ⟨i5, ei5⟩ := is_v q5
  obtain rfl : w5 = (.int i5) := Option.some.inj ei5
  obtain ⟨n, o, h1, h2, h3, _, L, rfl, ⟨rfl, -, N⟩, hq⟩ := own_law l s _ hw i0 i1 i2 i3 i4 i5 s.heap s.heap.size (Nat.le_refl _) p e ha hc hk s m _ below hf ((Spec.applies_iff_loose hf).mp happ).1 ⟨rfl, State.Warmed39.refl s, rfl⟩ trivial
  refine ⟨n, _, h1, h2, h3, hpost _ _ _ _ _ _ ⟨Cond.after_iff.mpr rfl, Cond.after_iff.mpr (eq_i res_at (Term.int_eval (1)) rfl), trivial⟩ ⟨hq.1, hq.2.1, (hq.2.2.sift fun y hy => Or.inr (N y hy)).mono (by decide) (by decide)⟩⟩
theorem main_1_1 : Claimed_1_1 := comes_1 fun _ _ _ _ _ _ h hF => ⟨h.1, hF⟩
theorem main_1_2 : Claimed_1_2 := comes_1 fun _ _ _ _ _ _ h hF => ⟨h.2.1, hF⟩
end Jvm.Pilot.@@N@@
namespace Jvm.Pilot.@@N@@
open Jvm Jvm.ClassFile Sem Op Lib Jvm.Free Jvm.Stand Jvm.Pilot.@@N@@.Jvm.D
/-! MADE BY PROGRAM (witnessworld.py) out of the Statement's table words and the real class files: 9 classes; the members and pool entries that the words name. The judged class is class 1, her method 1. -/
namespace start1
open Jvm.ClassFile
def u (s : String) : CpInfo := .utf8 (stringToUtf16 s)
/-- a pool by its gaps: so many unusable entries, then the entry; so many at the end -/
def gap : Nat → List CpInfo → List CpInfo
  | 0, r => r
  | n + 1, r => .unusable :: gap n r
def poolList (es : List (Nat × CpInfo)) (last : Nat) : List CpInfo := es.foldr (fun e r => gap e.1 (e.2 :: r)) (gap last [])
def pool (es : List (Nat × CpInfo)) (last : Nat) : Array CpInfo := ⟨poolList es last⟩
def fileOf (pool : Array CpInfo) (this : Nat) (attrs : Array Attribute := #[]) (ms : Array MethodInfo := #[]) (fl : Nat := 33) (sup : Nat := 0) (ifs : Array Nat := #[]) (fds : Array FieldInfo := #[]) : ClassFile where
  minorVersion := 0
  majorVersion := 65
  constantPool := pool
  accessFlags := fl
  thisClass := this
  superClass := sup
  interfaces := ifs
  fields := fds
  methods := ms
  attributes := attrs
def plain (name : String) (sup : Option ClassId) : Class where
  name := name
  kind := .ordinary
  loader := none
  accessFlags := 33
  super := sup
  interfaces := #[]
  cf := none
  fields := #[]
  methods := #[]
  instanceTypes := #[]
  staticTypes := #[]
  resolved := #[]
  callSites := []
  init := .initialized
  statics := none
  mirror := none

def pool0 : Array CpInfo := pool [(5, u "<init>"), (0, u "()V"), (1, .class_ 10), (1, u "java/lang/Object")] 113

def k0m0 : Method := { name := "<init>", desc := "()V", sig := { parameters := [], returnType := none }, accessFlags := 1, code := none }
/-- java/lang/Object -/
def k0 : Class := { plain "java/lang/Object" none with
  accessFlags := 33
  interfaces := #[]
  cf := some (fileOf pool0 8 #[] #[{ accessFlags := 1, nameIndex := 5, descriptorIndex := 6, attributes := #[] }] 33 0 #[] #[])
  fields := #[]
  methods := #[k0m0]
  instanceTypes := #[]
  staticTypes := #[]
  resolved := Array.replicate 124 none
  statics := none }

def pool1 : Array CpInfo := pool [(2, .class_ 4), (1, u "java/lang/Object"), (0, u "<init>"), (0, u "()V"), (0, .integer 2147483647), (0, .methodref 9 10), (0, .class_ 11), (0, .nameAndType 12 13), (0, u "com/example/private_knowledge_graphs/privateknowledgegraphs/release/CanonicalLabelling"), (0, u "root"), (0, u "([II)I"), (0, .methodref 15 16), (0, .class_ 17), (0, .nameAndType 18 19), (0, u "com/example/private_knowledge_graphs/privateknowledgegraphs/release/CanonicalLabellingRootPinLaw"), (0, u "cell"), (0, u "([I[IIIIIII)Z"), (2, u "law"), (0, u "(IIIIII)Z")] 5

def k1m0 : Method := { name := "<init>", desc := "()V", sig := { parameters := [], returnType := none }, accessFlags := 1, code := none }
def k1c1 : Code := { maxStack := 8, maxLocals := 17, code := code, exceptionTable := #[], attributes := #[] }
def k1m1 : Method := { name := "law", desc := "(IIIIII)Z", sig := { parameters := [.int, .int, .int, .int, .int, .int], returnType := some .boolean }, accessFlags := 9, code := some k1c1 }
def k1c2 : Code := { maxStack := 2, maxLocals := 10, code := method_3_code, exceptionTable := #[], attributes := #[] }
def k1m2 : Method := { name := "cell", desc := "([I[IIIIIII)Z", sig := { parameters := [(.array .int), (.array .int), .int, .int, .int, .int, .int, .int], returnType := some .boolean }, accessFlags := 10, code := some k1c2 }
/-- com/example/private_knowledge_graphs/privateknowledgegraphs/release/CanonicalLabellingRootPinLaw -/
def k1 : Class := { plain "com/example/private_knowledge_graphs/privateknowledgegraphs/release/CanonicalLabellingRootPinLaw" (some 0) with
  accessFlags := 49
  interfaces := #[]
  cf := some (fileOf pool1 15 #[] #[{ accessFlags := 1, nameIndex := 5, descriptorIndex := 6, attributes := #[] }, { accessFlags := 9, nameIndex := 22, descriptorIndex := 23, attributes := #[] }, { accessFlags := 10, nameIndex := 18, descriptorIndex := 19, attributes := #[] }] 49 2 #[] #[])
  fields := #[]
  methods := #[k1m0, k1m1, k1m2]
  instanceTypes := #[]
  staticTypes := #[]
  resolved := Array.replicate 29 none
  statics := none }

def pool2 : Array CpInfo := pool [(2, .class_ 4), (1, u "java/lang/Object"), (6, .class_ 13), (1, u "com/example/private_knowledge_graphs/privateknowledgegraphs/release/CanonicalLabelling"), (0, u "hanging"), (0, u "Ljava/util/List;"), (2, u "automorphisms"), (2, u "triples"), (0, u "[[I"), (2, u "nodeCount"), (0, u "I"), (8, u "lowest"), (22, u "incidence"), (2, u "codes"), (0, u "[I"), (15, u "joins"), (2, u "twinsOf"), (2, u "twins"), (4, u "refinement"), (3, u "Lcom/example/private_knowledge_graphs/privateknowledgegraphs/release/ColourRefinement;"), (16, u "labels"), (2, u "certificate"), (160, u "root"), (0, u "([II)I"), (36, u "firstLeaf"), (6, u "firstPath"), (2, u "firstCertificate"), (29, u "FIXED"), (2, u "ITSELF"), (1, u "HANGING"), (1, u "HUNG_FROM"), (1, u "CORE")] 79

def k2c0 : Code := { maxStack := 3, maxLocals := 5, code := prog_18_method_4_code, exceptionTable := #[], attributes := #[] }
def k2m0 : Method := { name := "root", desc := "([II)I", sig := { parameters := [(.array .int), .int], returnType := some .int }, accessFlags := 8, code := some k2c0 }
/-- com/example/private_knowledge_graphs/privateknowledgegraphs/release/CanonicalLabelling -/
def k2 : Class := { plain "com/example/private_knowledge_graphs/privateknowledgegraphs/release/CanonicalLabelling" (some 0) with
  accessFlags := 48
  interfaces := #[]
  cf := some (fileOf pool2 11 #[] #[{ accessFlags := 8, nameIndex := 274, descriptorIndex := 275, attributes := #[] }] 48 2 #[] #[{ accessFlags := 26, nameIndex := 352, descriptorIndex := 26, attributes := #[] }, { accessFlags := 26, nameIndex := 355, descriptorIndex := 26, attributes := #[] }, { accessFlags := 26, nameIndex := 357, descriptorIndex := 26, attributes := #[] }, { accessFlags := 26, nameIndex := 359, descriptorIndex := 26, attributes := #[] }, { accessFlags := 26, nameIndex := 361, descriptorIndex := 26, attributes := #[] }, { accessFlags := 18, nameIndex := 21, descriptorIndex := 22, attributes := #[] }, { accessFlags := 18, nameIndex := 25, descriptorIndex := 26, attributes := #[] }, { accessFlags := 18, nameIndex := 35, descriptorIndex := 26, attributes := #[] }, { accessFlags := 18, nameIndex := 58, descriptorIndex := 22, attributes := #[] }, { accessFlags := 18, nameIndex := 61, descriptorIndex := 62, attributes := #[] }, { accessFlags := 18, nameIndex := 14, descriptorIndex := 15, attributes := #[] }, { accessFlags := 18, nameIndex := 78, descriptorIndex := 22, attributes := #[] }, { accessFlags := 18, nameIndex := 84, descriptorIndex := 22, attributes := #[] }, { accessFlags := 18, nameIndex := 81, descriptorIndex := 62, attributes := #[] }, { accessFlags := 18, nameIndex := 89, descriptorIndex := 93, attributes := #[] }, { accessFlags := 18, nameIndex := 18, descriptorIndex := 15, attributes := #[] }, { accessFlags := 2, nameIndex := 312, descriptorIndex := 62, attributes := #[] }, { accessFlags := 2, nameIndex := 319, descriptorIndex := 15, attributes := #[] }, { accessFlags := 2, nameIndex := 322, descriptorIndex := 62, attributes := #[] }, { accessFlags := 2, nameIndex := 110, descriptorIndex := 62, attributes := #[] }, { accessFlags := 2, nameIndex := 113, descriptorIndex := 62, attributes := #[] }])
  fields := #[{ name := "FIXED", type := .int, accessFlags := 26, slot := 0, constantValue := 0 }, { name := "ITSELF", type := .int, accessFlags := 26, slot := 1, constantValue := 0 }, { name := "HANGING", type := .int, accessFlags := 26, slot := 2, constantValue := 0 }, { name := "HUNG_FROM", type := .int, accessFlags := 26, slot := 3, constantValue := 0 }, { name := "CORE", type := .int, accessFlags := 26, slot := 4, constantValue := 0 }, { name := "triples", type := (.array (.array .int)), accessFlags := 18, slot := 0, constantValue := 0 }, { name := "nodeCount", type := .int, accessFlags := 18, slot := 1, constantValue := 0 }, { name := "lowest", type := .int, accessFlags := 18, slot := 2, constantValue := 0 }, { name := "incidence", type := (.array (.array .int)), accessFlags := 18, slot := 3, constantValue := 0 }, { name := "codes", type := (.array .int), accessFlags := 18, slot := 4, constantValue := 0 }, { name := "hanging", type := (.object "java/util/List"), accessFlags := 18, slot := 5, constantValue := 0 }, { name := "joins", type := (.array (.array .int)), accessFlags := 18, slot := 6, constantValue := 0 }, { name := "twins", type := (.array (.array .int)), accessFlags := 18, slot := 7, constantValue := 0 }, { name := "twinsOf", type := (.array .int), accessFlags := 18, slot := 8, constantValue := 0 }, { name := "refinement", type := (.object "com/example/private_knowledge_graphs/privateknowledgegraphs/release/ColourRefinement"), accessFlags := 18, slot := 9, constantValue := 0 }, { name := "automorphisms", type := (.object "java/util/List"), accessFlags := 18, slot := 10, constantValue := 0 }, { name := "firstLeaf", type := (.array .int), accessFlags := 2, slot := 11, constantValue := 0 }, { name := "firstPath", type := (.object "java/util/List"), accessFlags := 2, slot := 12, constantValue := 0 }, { name := "firstCertificate", type := (.array .int), accessFlags := 2, slot := 13, constantValue := 0 }, { name := "labels", type := (.array .int), accessFlags := 2, slot := 14, constantValue := 0 }, { name := "certificate", type := (.array .int), accessFlags := 2, slot := 15, constantValue := 0 }]
  methods := #[k2m0]
  instanceTypes := #[(.array (.array .int)), .int, .int, (.array (.array .int)), (.array .int), (.object "java/util/List"), (.array (.array .int)), (.array (.array .int)), (.array .int), (.object "com/example/private_knowledge_graphs/privateknowledgegraphs/release/ColourRefinement"), (.object "java/util/List"), (.array .int), (.object "java/util/List"), (.array .int), (.array .int), (.array .int)]
  staticTypes := #[.int, .int, .int, .int, .int]
  resolved := Array.replicate 441 none
  statics := none }

def pool3 : Array CpInfo := pool [(1, u "java/lang/Cloneable"), (0, .class_ 1), (0, u "java/lang/Object"), (0, .class_ 3)] 3

/-- java/lang/Cloneable -/
def k3 : Class := { plain "java/lang/Cloneable" (some 0) with
  accessFlags := 1537
  interfaces := #[]
  cf := some (fileOf pool3 2 #[] #[] 1537 4 #[] #[])
  fields := #[]
  methods := #[]
  instanceTypes := #[]
  staticTypes := #[]
  resolved := Array.replicate 8 none
  statics := none }

def pool4 : Array CpInfo := pool [(1, u "java/io/Serializable"), (0, .class_ 1), (0, u "java/lang/Object"), (0, .class_ 3)] 3

/-- java/io/Serializable -/
def k4 : Class := { plain "java/io/Serializable" (some 0) with
  accessFlags := 1537
  interfaces := #[]
  cf := some (fileOf pool4 2 #[] #[] 1537 4 #[] #[])
  fields := #[]
  methods := #[]
  instanceTypes := #[]
  staticTypes := #[]
  resolved := Array.replicate 8 none
  statics := none }

/-- the primitive byte -/
def k5 : Class := { plain "byte" none with kind := .primitive 'B', accessFlags := 0x411 }
/-- [B -/
def k6 : Class := { plain "[B" (some 0) with kind := .array 5 .byte, interfaces := #[3, 4], accessFlags := 1041 }

/-- the primitive int -/
def k7 : Class := { plain "int" none with kind := .primitive 'I', accessFlags := 0x411 }
/-- [I -/
def k8 : Class := { plain "[I" (some 0) with kind := .array 7 .int, interfaces := #[3, 4], accessFlags := 1041 }

def heap : Heap := #[]
def classes : Array Class := #[k0, k1, k2, k3, k4, k5, k6, k7, k8]
def interned : List (Array UInt16 × Addr) := []
def slotsUsed : Nat := 0
def theMethod : MethodId := ⟨1, 1⟩
def args0 : Array Value := #[.int 5, .int 77, .int 2, .int 3, .int 1, .int 0]
def aboutOver (below : List Frame) : State where
  vm := { classes := classes, interned := interned.toArray }
  heap := heap
  slotsUsed := slotsUsed
  threads := #[{ frames := .invoking theMethod args0 :: below }]
def below0 : List Frame := [.native { method := ⟨0, 0⟩, args := #[] }]
def about1 : State := aboutOver below0
def p0 : Program := .bare "" "" ""
def e0 : Env := launch0.env 0 0 0
theorem w_frames : about1.frames = Frame.invoking theMethod args0 :: below0 := rfl
set_option maxRecDepth 65536 in
theorem w_args : argsFit about1.vm theMethod args0 = true := by decide +kernel
set_option maxRecDepth 65536 in
theorem w_heap : heapFits about1 = true := by decide +kernel
set_option maxRecDepth 65536 in
theorem w_runnable : about1.curStatus? = some .runnable := by decide +kernel
set_option maxRecDepth 65536 in
theorem w_alone : about1.alone = true := by decide +kernel
set_option maxRecDepth 65536 in
theorem w_named : about1.methodNamed? x = some theMethod := by decide +kernel
set_option maxRecDepth 65536 in
theorem w_hears : about1.hears theMethod below0 = true := by decide +kernel
set_option maxRecDepth 65536 in
theorem w_ripe : about1.ripe theMethod args0 below0 = true := by decide +kernel
theorem w_running : about1.status = .running := rfl
set_option maxRecDepth 65536 in
theorem w_room : about1.hasRoom e0.platform room_1 = true :=
  launch0.hasRoom_least _ room_1 (by decide +kernel) (by decide +kernel) (by decide +kernel) (by decide +kernel) (by decide +kernel) (by decide +kernel)
theorem allAtoms_all (ts : List Jvm.Cond) (a : Array Jvm.Value) (st : Jvm.State) : (allAtoms ts).before a st = ts.all (fun c => c.before a st) := by
  induction ts with
  | nil => rfl
  | cons c t ih =>
    show (Jvm.Cond.and c (allAtoms t)).before a st = _
    rw [Jvm.Cond.before_and, ih, List.all_cons]
def words1 : List Jvm.Cond := Jvm.Cond.code x code maxLocals ret :: tables_1
/-- a 'code' word, met by the world's own term for the bytes: nothing is compared byte by byte -/
theorem code_word {y : MethodName} {bytes : ByteArray} {mx : Nat} {rt : Option FieldType} {a : Array Value} {s : State} {m : MethodId} {meth : Method} {c : Code} (h1 : s.methodNamed? y = some m) (h2 : s.vm.method? m = some meth) (h3 : meth.code = some c) (h4 : c.code = bytes)
    (h5 : (c.maxLocals == mx && c.exceptionTable.isEmpty && decide (c.maxStack ≤ mostOperands) && decide (meth.sig.returnType = rt) && !meth.locks && decide (parseMethodDescriptor y.desc = some meth.sig)) = true) : (Jvm.Cond.code y bytes mx rt).before a s = true := by
  simp only [Bool.and_eq_true, beq_iff_eq, Bool.not_eq_true', decide_eq_true_eq] at h5
  obtain ⟨⟨⟨⟨⟨g1, g2⟩, g3⟩, g4⟩, g5⟩, g6⟩ := h5
  simp [Cond.before, Cond.holds, Cond.value, h1, h2, h3, h4, g1, g2, g3, g4, g5, g6]
def isCode : Jvm.Cond → Bool
  | .code _ _ _ _ => true
  | _ => false
theorem all_split {L : List Jvm.Cond} {P : Jvm.Cond → Bool} (h1 : L.all (fun c => isCode c || P c) = true) (h2 : ∀ c ∈ L.filter isCode, P c = true) : L.all P = true := by
  refine List.all_eq_true.mpr fun c hc => ?_
  have h := List.all_eq_true.mp h1 c hc
  rcases Bool.eq_false_or_eq_true (isCode c) with hi | hi
  · exact h2 c (List.mem_filter.mpr ⟨hc, hi⟩)
  · simpa [hi] using h
set_option maxRecDepth 65536 in
theorem w_c0 : (Jvm.Cond.code x code maxLocals ret).before args0 about1 = true := code_word (m := ⟨1, 1⟩) (meth := k1m1) (c := k1c1) (by decide +kernel) rfl rfl rfl (by decide +kernel)
set_option maxRecDepth 65536 in
theorem w_c1 : (Jvm.Cond.code ({ cls := "com/example/private_knowledge_graphs/privateknowledgegraphs/release/CanonicalLabelling", name := "root", desc := "([II)I" } : Jvm.MethodName) prog_18_method_4_code (5 : Nat) (Option.some Jvm.ClassFile.FieldType.int)).before args0 about1 = true := code_word (m := ⟨2, 0⟩) (meth := k2m0) (c := k2c0) (by decide +kernel) rfl rfl rfl (by decide +kernel)
set_option maxRecDepth 65536 in
theorem w_c2 : (Jvm.Cond.code ({ cls := "com/example/private_knowledge_graphs/privateknowledgegraphs/release/CanonicalLabellingRootPinLaw", name := "cell", desc := "([I[IIIIIII)Z" } : Jvm.MethodName) method_3_code (10 : Nat) (Option.some Jvm.ClassFile.FieldType.boolean)).before args0 about1 = true := code_word (m := ⟨1, 2⟩) (meth := k1m2) (c := k1c2) (by decide +kernel) rfl rfl rfl (by decide +kernel)
def codes1 : List Jvm.Cond := [Jvm.Cond.code x code maxLocals ret, Jvm.Cond.code ({ cls := "com/example/private_knowledge_graphs/privateknowledgegraphs/release/CanonicalLabelling", name := "root", desc := "([II)I" } : Jvm.MethodName) prog_18_method_4_code (5 : Nat) (Option.some Jvm.ClassFile.FieldType.int), Jvm.Cond.code ({ cls := "com/example/private_knowledge_graphs/privateknowledgegraphs/release/CanonicalLabellingRootPinLaw", name := "cell", desc := "([I[IIIIIII)Z" } : Jvm.MethodName) method_3_code (10 : Nat) (Option.some Jvm.ClassFile.FieldType.boolean)]
set_option maxRecDepth 65536 in
theorem codes_eq : words1.filter isCode = codes1 := rfl
theorem w_codes : ∀ c ∈ words1.filter isCode, c.before args0 about1 = true := by
  rw [codes_eq]
  intro c hc
  simp only [codes1, List.mem_cons, List.not_mem_nil, or_false] at hc
  rcases hc with rfl | rfl | rfl
  · exact w_c0
  · exact w_c1
  · exact w_c2
set_option maxRecDepth 65536 in
theorem w_t1 : words1.all (fun c => isCode c || c.before args0 about1) = true := by decide +kernel
theorem w_tables : (allAtoms (Jvm.Cond.code x code maxLocals ret :: tables_1)).before args0 about1 = true := by
  rw [allAtoms_all]
  show words1.all (fun c => c.before args0 about1) = true
  refine all_split ?_ w_codes
  rw [w_t1]
set_option maxRecDepth 65536 in
theorem w_case : (Jvm.Cond.and given_1 narrow_1).before args0 about1 = true := by decide +kernel
theorem w_applies : (headSpec (Jvm.Cond.code x code maxLocals ret :: tables_1) room_1).applies x e0.platform about1 = true :=
  (Spec.applies_iff w_frames).mpr ⟨w_running, w_runnable, w_alone, w_named, w_hears, w_ripe, w_room, w_tables⟩
theorem atStart : AtStart classFile x code maxLocals ret World_1 tables_1 room_1 Calls_1 rest_1 Pre_1 launch0 p0 e0 about1 theMethod args0 below0 :=
  ⟨lists_1, trivial, launch0.admits_env _ _ _, launch0.least_env, fairChoices_fair.cas, fairChoices_fair.clock, w_frames, w_args, w_heap, w_applies, trivial, trivial, w_case⟩
end start1
theorem witness_1 : WitnessClaimed_1 := ⟨start1.p0, start1.e0, start1.about1, start1.theMethod, start1.args0, start1.below0, start1.atStart⟩
end Jvm.Pilot.@@N@@
