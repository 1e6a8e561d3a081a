import JvmDerived
import JvmDerived.Pilot.@@N@@Statement
import JvmDerived.Pilot.@@N@@Code
set_option linter.unusedVariables false
set_option linter.unusedSimpArgs false
@@BLOCK:NumsL.lean.txt@@
namespace Jvm.Pilot.@@N@@
open Jvm Jvm.ClassFile Sem Op Lib Jvm.Free Jvm.Stand Jvm.LawKit Jvm.RoadKit Bundle Jvm.Pilot.@@N@@.Jvm.D
section OwnKit
variable {p : Program} {l : Launch} {e : Env} {R : Room} {s : State} {m : MethodId} {args : Array Value} {below : List Frame} {meth : Method} {c : Code} {Z : State} {B : ByteArray} {ml : Nat} {own nm : String} {rt : Option FieldType} {n0 z0 n1 z1 kc ns : Nat} {EN : Outcome → State → List Loc → Prop} {T : State} {h h' : Heap} {kk nn kk' nn' : Nat} {Q : Option Value → Heap → Prop} {pc pc' pq : Nat} {L L' : Array Slot} {S : List Value} {a0 : Array Value}
/-- what one body's walk keeps throughout -/
def OCx (p : Program) (s : State) (m : MethodId) (meth : Method) (c : Code) (Z : State) (B : ByteArray) (ml : Nat) (own nm : String) (rt : Option FieldType) : Prop :=
  p.tables.exec = Jvm.exec ∧ Z.Warmed39 s.vm ∧ c.code = B ∧ c.maxLocals = ml ∧ s.vm.findClass own = some m.cls ∧ meth.name = nm ∧ meth.sig.returnType = rt ∧ meth.locks = false
/-- where the walk stands: the state T, its heap h, what was made so far -/
def OW (p : Program) (l : Launch) (e : Env) (R : Room) (s : State) (m : MethodId) (args : Array Value) (below : List Frame) (meth : Method) (c : Code) (Z : State) (B : ByteArray) (ml : Nat) (own nm : String) (rt : Option FieldType) (n0 z0 : Nat) (T : State) (h : Heap) (kk nn : Nat) : Prop :=
  OCx p s m meth c Z B ml own nm rt ∧ n0 ≤ z0 ∧ z0 ≤ h.size ∧ T.heap = h ∧ ∃ locs, Stand p l e R s m args below meth c T locs kk nn ∧ Fr n0 locs
/-- what a body leaves: its own word, and that nothing old was written or lost -/
def OQ (Q : Option Value → Heap → Prop) (z0 n0 : Nat) (v : Option Value) (h : Heap) (L : List Loc) : Prop := Q v h ∧ z0 ≤ h.size ∧ Fr n0 L
/-- the run from here ends well -/
def OF (p : Program) (e : Env) (below : List Frame) (n0 z0 : Nat) (EN : Outcome → State → List Loc → Prop) (Q : Option Value → Heap → Prop) (T : State) (f : JFrame) : Prop :=
  ∃ s₂ o, Steps p.tables e below (T.setTop f) s₂ ∧ s₂.status = .running ∧ Ended s₂ below o ∧ ∃ v L, o = .returned v ∧ OQ Q z0 n0 v s₂.heap L ∧ EN o s₂ L
/-- the end as the narrow frame has it -/
def ENn (s : State) (kc ns : Nat) : Outcome → State → List Loc → Prop := fun o t L => FrameEnd s o t L kc ns
theorem OW.here (W : OW p l e R s m args below meth c Z B ml own nm rt n0 z0 T h kk nn) : At T m c below := by obtain ⟨-, -, -, -, _, X, -⟩ := W; exact X.here
theorem OW.hx (W : OW p l e R s m args below meth c Z B ml own nm rt n0 z0 T h kk nn) : p.tables.exec = Jvm.exec := W.1.1
theorem OW.hZ (W : OW p l e R s m args below meth c Z B ml own nm rt n0 z0 T h kk nn) : Z.Warmed39 s.vm := W.1.2.1
theorem OW.by (W : OW p l e R s m args below meth c Z B ml own nm rt n0 z0 T h kk nn) : c.code = B := W.1.2.2.1
theorem OW.hml (W : OW p l e R s m args below meth c Z B ml own nm rt n0 z0 T h kk nn) : c.maxLocals = ml := W.1.2.2.2.1
theorem OW.hown (W : OW p l e R s m args below meth c Z B ml own nm rt n0 z0 T h kk nn) : s.vm.findClass own = some m.cls := W.1.2.2.2.2.1
theorem OW.le (W : OW p l e R s m args below meth c Z B ml own nm rt n0 z0 T h kk nn) : n0 ≤ h.size := Nat.le_trans W.2.1 W.2.2.1
theorem OF.step {T' : State} {f f' : JFrame} (hs : ∀ t, Steps p.tables e below (T'.setTop f') t → Steps p.tables e below (T.setTop f) t) (q : OF p e below n1 z1 EN Q T' f') : OF p e below n1 z1 EN Q T f := by
  obtain ⟨s₂, o, h1, h2⟩ := q
  exact ⟨s₂, o, hs _ h1, h2⟩
theorem OF.cast {f f' : JFrame} (q : f = f') (h : OF p e below n1 z1 EN Q T f') : OF p e below n1 z1 EN Q T f := q ▸ h
theorem o_iloadN {i : Fin 4} {v : Int32} (W : OW p l e R s m args below meth c Z B ml own nm rt n0 z0 T h kk nn) (hd : decode B pc = .ok (.iload_n i, 1)) (hl : L[i.val]? = some (.val (.int v))) (hp : pc + 1 = pc')
    (k1 : OF p e below n1 z1 EN Q T (mkF m pc' L (.int v :: S))) : OF p e below n1 z1 EN Q T (mkF m pc L S) := by
  subst hp; exact OF.step (fun t q => XS.iloadN W.here W.hx rfl (hb W.by hd) hl q) k1
theorem o_iload {i : Nat} {v : Int32} (W : OW p l e R s m args below meth c Z B ml own nm rt n0 z0 T h kk nn) (hd : decode B pc = .ok (.iload i, 2)) (hl : L[i]? = some (.val (.int v))) (hp : pc + 2 = pc')
    (k1 : OF p e below n1 z1 EN Q T (mkF m pc' L (.int v :: S))) : OF p e below n1 z1 EN Q T (mkF m pc L S) := by
  subst hp; exact OF.step (fun t q => XS.iload W.here W.hx rfl (hb W.by hd) hl q) k1
theorem o_lloadN {i : Fin 4} {v : Int64} (W : OW p l e R s m args below meth c Z B ml own nm rt n0 z0 T h kk nn) (hd : decode B pc = .ok (.lload_n i, 1)) (hl : L[i.val]? = some (.val (.long v))) (hp : pc + 1 = pc')
    (k1 : OF p e below n1 z1 EN Q T (mkF m pc' L (.long v :: S))) : OF p e below n1 z1 EN Q T (mkF m pc L S) := by
  subst hp; exact OF.step (fun t q => XS.lloadN W.here W.hx rfl (hb W.by hd) hl q) k1
theorem o_lload {i : Nat} {v : Int64} (W : OW p l e R s m args below meth c Z B ml own nm rt n0 z0 T h kk nn) (hd : decode B pc = .ok (.lload i, 2)) (hl : L[i]? = some (.val (.long v))) (hp : pc + 2 = pc')
    (k1 : OF p e below n1 z1 EN Q T (mkF m pc' L (.long v :: S))) : OF p e below n1 z1 EN Q T (mkF m pc L S) := by
  subst hp; exact OF.step (fun t q => XS.lload W.here W.hx rfl (hb W.by hd) hl q) k1
theorem o_aloadN {i : Fin 4} {v : Value} (W : OW p l e R s m args below meth c Z B ml own nm rt n0 z0 T h kk nn) (hd : decode B pc = .ok (.aload_n i, 1)) (hl : L[i.val]? = some (.val v)) (hv : v.isRef = true) (hp : pc + 1 = pc')
    (k1 : OF p e below n1 z1 EN Q T (mkF m pc' L (v :: S))) : OF p e below n1 z1 EN Q T (mkF m pc L S) := by
  subst hp; exact OF.step (fun t q => XS.aloadN W.here W.hx rfl (hb W.by hd) hl hv q) k1
theorem o_aload {i : Nat} {v : Value} (W : OW p l e R s m args below meth c Z B ml own nm rt n0 z0 T h kk nn) (hd : decode B pc = .ok (.aload i, 2)) (hl : L[i]? = some (.val v)) (hv : v.isRef = true) (hp : pc + 2 = pc')
    (k1 : OF p e below n1 z1 EN Q T (mkF m pc' L (v :: S))) : OF p e below n1 z1 EN Q T (mkF m pc L S) := by
  subst hp; exact OF.step (fun t q => XS.aload W.here W.hx rfl (hb W.by hd) hl hv q) k1
theorem o_istoreN {i : Fin 4} {x : Int32} (W : OW p l e R s m args below meth c Z B ml own nm rt n0 z0 T h kk nn) (hd : decode B pc = .ok (.istore_n i, 1)) (hl : storeLocals L i.val (.int x) = some L') (hp : pc + 1 = pc')
    (k1 : OF p e below n1 z1 EN Q T (mkF m pc' L' S)) : OF p e below n1 z1 EN Q T (mkF m pc L (.int x :: S)) := by
  subst hp; exact OF.step (fun t q => XS.istoreN W.here W.hx rfl (hb W.by hd) rfl hl q) k1
theorem o_istoreNG {i : Fin 4} {x : Int32} {Lf : Int32 → Array Slot} (W : OW p l e R s m args below meth c Z B ml own nm rt n0 z0 T h kk nn) (hd : decode B pc = .ok (.istore_n i, 1)) (hl : storeLocals L i.val (.int x) = some (Lf x)) (hp : pc + 1 = pc')
    (k1 : ∀ v, v = x → OF p e below n1 z1 EN Q T (mkF m pc' (Lf v) S)) : OF p e below n1 z1 EN Q T (mkF m pc L (.int x :: S)) := o_istoreN W hd hl hp (k1 x rfl)
theorem o_istore {i : Nat} {x : Int32} (W : OW p l e R s m args below meth c Z B ml own nm rt n0 z0 T h kk nn) (hd : decode B pc = .ok (.istore i, 2)) (hl : storeLocals L i (.int x) = some L') (hp : pc + 2 = pc')
    (k1 : OF p e below n1 z1 EN Q T (mkF m pc' L' S)) : OF p e below n1 z1 EN Q T (mkF m pc L (.int x :: S)) := by
  subst hp; exact OF.step (fun t q => XS.istore W.here W.hx rfl (hb W.by hd) rfl hl q) k1
theorem o_istoreG {i : Nat} {x : Int32} {Lf : Int32 → Array Slot} (W : OW p l e R s m args below meth c Z B ml own nm rt n0 z0 T h kk nn) (hd : decode B pc = .ok (.istore i, 2)) (hl : storeLocals L i (.int x) = some (Lf x)) (hp : pc + 2 = pc')
    (k1 : ∀ v, v = x → OF p e below n1 z1 EN Q T (mkF m pc' (Lf v) S)) : OF p e below n1 z1 EN Q T (mkF m pc L (.int x :: S)) := o_istore W hd hl hp (k1 x rfl)
theorem o_lstoreN {i : Fin 4} {x : Int64} (W : OW p l e R s m args below meth c Z B ml own nm rt n0 z0 T h kk nn) (hd : decode B pc = .ok (.lstore_n i, 1)) (hl : storeLocals L i.val (.long x) = some L') (hp : pc + 1 = pc')
    (k1 : OF p e below n1 z1 EN Q T (mkF m pc' L' S)) : OF p e below n1 z1 EN Q T (mkF m pc L (.long x :: S)) := by
  subst hp; exact OF.step (fun t q => XS.lstoreN W.here W.hx rfl (hb W.by hd) rfl hl q) k1
theorem o_lstoreNG {i : Fin 4} {x : Int64} {Lf : Int64 → Array Slot} (W : OW p l e R s m args below meth c Z B ml own nm rt n0 z0 T h kk nn) (hd : decode B pc = .ok (.lstore_n i, 1)) (hl : storeLocals L i.val (.long x) = some (Lf x)) (hp : pc + 1 = pc')
    (k1 : ∀ v, v = x → OF p e below n1 z1 EN Q T (mkF m pc' (Lf v) S)) : OF p e below n1 z1 EN Q T (mkF m pc L (.long x :: S)) := o_lstoreN W hd hl hp (k1 x rfl)
theorem o_lstore {i : Nat} {x : Int64} (W : OW p l e R s m args below meth c Z B ml own nm rt n0 z0 T h kk nn) (hd : decode B pc = .ok (.lstore i, 2)) (hl : storeLocals L i (.long x) = some L') (hp : pc + 2 = pc')
    (k1 : OF p e below n1 z1 EN Q T (mkF m pc' L' S)) : OF p e below n1 z1 EN Q T (mkF m pc L (.long x :: S)) := by
  subst hp; exact OF.step (fun t q => XS.lstore W.here W.hx rfl (hb W.by hd) rfl hl q) k1
theorem o_lstoreG {i : Nat} {x : Int64} {Lf : Int64 → Array Slot} (W : OW p l e R s m args below meth c Z B ml own nm rt n0 z0 T h kk nn) (hd : decode B pc = .ok (.lstore i, 2)) (hl : storeLocals L i (.long x) = some (Lf x)) (hp : pc + 2 = pc')
    (k1 : ∀ v, v = x → OF p e below n1 z1 EN Q T (mkF m pc' (Lf v) S)) : OF p e below n1 z1 EN Q T (mkF m pc L (.long x :: S)) := o_lstore W hd hl hp (k1 x rfl)
theorem o_astoreN {i : Fin 4} {x : Value} (W : OW p l e R s m args below meth c Z B ml own nm rt n0 z0 T h kk nn) (hd : decode B pc = .ok (.astore_n i, 1)) (hv : x.isRef = true) (hl : storeLocals L i.val x = some L') (hp : pc + 1 = pc')
    (k1 : OF p e below n1 z1 EN Q T (mkF m pc' L' S)) : OF p e below n1 z1 EN Q T (mkF m pc L (x :: S)) := by
  subst hp; exact OF.step (fun t q => XS.astoreN W.here W.hx rfl (hb W.by hd) rfl hv hl q) k1
theorem o_astore {i : Nat} {x : Value} (W : OW p l e R s m args below meth c Z B ml own nm rt n0 z0 T h kk nn) (hd : decode B pc = .ok (.astore i, 2)) (hv : x.isRef = true) (hl : storeLocals L i x = some L') (hp : pc + 2 = pc')
    (k1 : OF p e below n1 z1 EN Q T (mkF m pc' L' S)) : OF p e below n1 z1 EN Q T (mkF m pc L (x :: S)) := by
  subst hp; exact OF.step (fun t q => XS.astore W.here W.hx rfl (hb W.by hd) rfl hv hl q) k1
theorem o_iconst {i : Int} {v : Int32} (W : OW p l e R s m args below meth c Z B ml own nm rt n0 z0 T h kk nn) (hd : decode B pc = .ok (.iconst i, 1)) (hv : Int32.ofInt i = v) (hp : pc + 1 = pc')
    (k1 : OF p e below n1 z1 EN Q T (mkF m pc' L (.int v :: S))) : OF p e below n1 z1 EN Q T (mkF m pc L S) := by
  subst hp hv; exact OF.step (fun t q => XS.iconst W.here W.hx rfl (hb W.by hd) q) k1
theorem o_bipush {i : Int} {v : Int32} (W : OW p l e R s m args below meth c Z B ml own nm rt n0 z0 T h kk nn) (hd : decode B pc = .ok (.bipush i, 2)) (hv : (Int8.ofInt i).toInt32 = v) (hp : pc + 2 = pc')
    (k1 : OF p e below n1 z1 EN Q T (mkF m pc' L (.int v :: S))) : OF p e below n1 z1 EN Q T (mkF m pc L S) := by
  subst hp hv; exact OF.step (fun t q => XS.bipush W.here W.hx rfl (hb W.by hd) q) k1
theorem o_sipush {i : Int} {v : Int32} (W : OW p l e R s m args below meth c Z B ml own nm rt n0 z0 T h kk nn) (hd : decode B pc = .ok (.sipush i, 3)) (hv : (Int16.ofInt i).toInt32 = v) (hp : pc + 3 = pc')
    (k1 : OF p e below n1 z1 EN Q T (mkF m pc' L (.int v :: S))) : OF p e below n1 z1 EN Q T (mkF m pc L S) := by
  subst hp hv; exact OF.step (fun t q => XS.sipush W.here W.hx rfl (hb W.by hd) q) k1
theorem o_lconst {i : Fin 2} {v : Int64} (W : OW p l e R s m args below meth c Z B ml own nm rt n0 z0 T h kk nn) (hd : decode B pc = .ok (.lconst i, 1)) (hv : Int64.ofNat i = v) (hp : pc + 1 = pc')
    (k1 : OF p e below n1 z1 EN Q T (mkF m pc' L (.long v :: S))) : OF p e below n1 z1 EN Q T (mkF m pc L S) := by
  subst hp hv; exact OF.step (fun t q => XS.lconst W.here W.hx rfl (hb W.by hd) q) k1
theorem o_ldc {i : Nat} {v : Int32} (W : OW p l e R s m args below meth c Z B ml own nm rt n0 z0 T h kk nn) (w : (Jvm.Cond.constant own i v).before a0 Z = true) (hd : decode B pc = .ok (.ldc i, 2)) (hp : pc + 2 = pc')
    (k1 : OF p e below n1 z1 EN Q T (mkF m pc' L (.int v :: S))) : OF p e below n1 z1 EN Q T (mkF m pc L S) := by
  subst hp; obtain ⟨_, X, _⟩ := W.2.2.2.2; exact OF.step (fun t q => X.ldcInt W.hx W.hown (mvT W.hZ w) (g := mkF m pc L S) rfl (hb W.by hd) t q) k1
theorem o_ldc_w {i : Nat} {v : Int32} (W : OW p l e R s m args below meth c Z B ml own nm rt n0 z0 T h kk nn) (w : (Jvm.Cond.constant own i v).before a0 Z = true) (hd : decode B pc = .ok (.ldc_w i, 3)) (hp : pc + 3 = pc')
    (k1 : OF p e below n1 z1 EN Q T (mkF m pc' L (.int v :: S))) : OF p e below n1 z1 EN Q T (mkF m pc L S) := by
  subst hp; obtain ⟨_, X, _⟩ := W.2.2.2.2; exact OF.step (fun t q => X.ldcwInt W.hx W.hown (mvT W.hZ w) (g := mkF m pc L S) rfl (hb W.by hd) t q) k1
theorem o_ldc2_w {i : Nat} {v : Int64} (W : OW p l e R s m args below meth c Z B ml own nm rt n0 z0 T h kk nn) (w : (Jvm.Cond.constantLong own i v).before a0 Z = true) (hd : decode B pc = .ok (.ldc2_w i, 3)) (hp : pc + 3 = pc')
    (k1 : OF p e below n1 z1 EN Q T (mkF m pc' L (.long v :: S))) : OF p e below n1 z1 EN Q T (mkF m pc L S) := by
  subst hp; obtain ⟨_, X, _⟩ := W.2.2.2.2; exact OF.step (fun t q => X.ldc2Long W.hx W.hown (mvT W.hZ w) (g := mkF m pc L S) rfl (hb W.by hd) t q) k1
theorem o_iadd {x y : Int32} (W : OW p l e R s m args below meth c Z B ml own nm rt n0 z0 T h kk nn) (hd : decode B pc = .ok (.iadd, 1)) (hp : pc + 1 = pc')
    (k1 : OF p e below n1 z1 EN Q T (mkF m pc' L (.int (x + y) :: S))) : OF p e below n1 z1 EN Q T (mkF m pc L (.int y :: .int x :: S)) := by
  subst hp; exact OF.step (fun t q => XS.iadd W.here W.hx rfl (hb W.by hd) rfl q) k1
theorem o_isub {x y : Int32} (W : OW p l e R s m args below meth c Z B ml own nm rt n0 z0 T h kk nn) (hd : decode B pc = .ok (.isub, 1)) (hp : pc + 1 = pc')
    (k1 : OF p e below n1 z1 EN Q T (mkF m pc' L (.int (x - y) :: S))) : OF p e below n1 z1 EN Q T (mkF m pc L (.int y :: .int x :: S)) := by
  subst hp; exact OF.step (fun t q => XS.isub W.here W.hx rfl (hb W.by hd) rfl q) k1
theorem o_imul {x y : Int32} (W : OW p l e R s m args below meth c Z B ml own nm rt n0 z0 T h kk nn) (hd : decode B pc = .ok (.imul, 1)) (hp : pc + 1 = pc')
    (k1 : OF p e below n1 z1 EN Q T (mkF m pc' L (.int (x * y) :: S))) : OF p e below n1 z1 EN Q T (mkF m pc L (.int y :: .int x :: S)) := by
  subst hp; exact OF.step (fun t q => XS.imul W.here W.hx rfl (hb W.by hd) rfl q) k1
theorem o_iand {x y : Int32} (W : OW p l e R s m args below meth c Z B ml own nm rt n0 z0 T h kk nn) (hd : decode B pc = .ok (.iand, 1)) (hp : pc + 1 = pc')
    (k1 : OF p e below n1 z1 EN Q T (mkF m pc' L (.int (x &&& y) :: S))) : OF p e below n1 z1 EN Q T (mkF m pc L (.int y :: .int x :: S)) := by
  subst hp; exact OF.step (fun t q => XS.iand W.here W.hx rfl (hb W.by hd) rfl q) k1
theorem o_ior {x y : Int32} (W : OW p l e R s m args below meth c Z B ml own nm rt n0 z0 T h kk nn) (hd : decode B pc = .ok (.ior, 1)) (hp : pc + 1 = pc')
    (k1 : OF p e below n1 z1 EN Q T (mkF m pc' L (.int (x ||| y) :: S))) : OF p e below n1 z1 EN Q T (mkF m pc L (.int y :: .int x :: S)) := by
  subst hp; exact OF.step (fun t q => XS.ior W.here W.hx rfl (hb W.by hd) rfl q) k1
theorem o_ixor {x y : Int32} (W : OW p l e R s m args below meth c Z B ml own nm rt n0 z0 T h kk nn) (hd : decode B pc = .ok (.ixor, 1)) (hp : pc + 1 = pc')
    (k1 : OF p e below n1 z1 EN Q T (mkF m pc' L (.int (x ^^^ y) :: S))) : OF p e below n1 z1 EN Q T (mkF m pc L (.int y :: .int x :: S)) := by
  subst hp; exact OF.step (fun t q => XS.ixor W.here W.hx rfl (hb W.by hd) rfl q) k1
theorem o_ishl {x y : Int32} (W : OW p l e R s m args below meth c Z B ml own nm rt n0 z0 T h kk nn) (hd : decode B pc = .ok (.ishl, 1)) (hp : pc + 1 = pc')
    (k1 : OF p e below n1 z1 EN Q T (mkF m pc' L (.int (x <<< (y &&& 31)) :: S))) : OF p e below n1 z1 EN Q T (mkF m pc L (.int y :: .int x :: S)) := by
  subst hp; exact OF.step (fun t q => XS.ishl W.here W.hx rfl (hb W.by hd) rfl q) k1
theorem o_ishr {x y : Int32} (W : OW p l e R s m args below meth c Z B ml own nm rt n0 z0 T h kk nn) (hd : decode B pc = .ok (.ishr, 1)) (hp : pc + 1 = pc')
    (k1 : OF p e below n1 z1 EN Q T (mkF m pc' L (.int (x >>> (y &&& 31)) :: S))) : OF p e below n1 z1 EN Q T (mkF m pc L (.int y :: .int x :: S)) := by
  subst hp; exact OF.step (fun t q => XS.ishr W.here W.hx rfl (hb W.by hd) rfl q) k1
theorem o_iushr {x y : Int32} (W : OW p l e R s m args below meth c Z B ml own nm rt n0 z0 T h kk nn) (hd : decode B pc = .ok (.iushr, 1)) (hp : pc + 1 = pc')
    (k1 : OF p e below n1 z1 EN Q T (mkF m pc' L (.int ((x.toUInt32 >>> (y &&& 31).toUInt32).toInt32) :: S))) : OF p e below n1 z1 EN Q T (mkF m pc L (.int y :: .int x :: S)) := by
  subst hp; exact OF.step (fun t q => XS.iushr W.here W.hx rfl (hb W.by hd) rfl q) k1
theorem o_idiv {x y : Int32} (W : OW p l e R s m args below meth c Z B ml own nm rt n0 z0 T h kk nn) (hd : decode B pc = .ok (.idiv, 1)) (hy : y ≠ 0) (hp : pc + 1 = pc')
    (k1 : OF p e below n1 z1 EN Q T (mkF m pc' L (.int (x / y) :: S))) : OF p e below n1 z1 EN Q T (mkF m pc L (.int y :: .int x :: S)) := by
  subst hp; exact OF.step (fun t q => XS.idiv W.here W.hx rfl (hb W.by hd) rfl hy q) k1
theorem o_irem {x y : Int32} (W : OW p l e R s m args below meth c Z B ml own nm rt n0 z0 T h kk nn) (hd : decode B pc = .ok (.irem, 1)) (hy : y ≠ 0) (hp : pc + 1 = pc')
    (k1 : OF p e below n1 z1 EN Q T (mkF m pc' L (.int (x - (x / y) * y) :: S))) : OF p e below n1 z1 EN Q T (mkF m pc L (.int y :: .int x :: S)) := by
  subst hp; exact OF.step (fun t q => XS.irem W.here W.hx rfl (hb W.by hd) rfl hy q) k1
theorem o_ladd {x y : Int64} (W : OW p l e R s m args below meth c Z B ml own nm rt n0 z0 T h kk nn) (hd : decode B pc = .ok (.ladd, 1)) (hp : pc + 1 = pc')
    (k1 : OF p e below n1 z1 EN Q T (mkF m pc' L (.long (x + y) :: S))) : OF p e below n1 z1 EN Q T (mkF m pc L (.long y :: .long x :: S)) := by
  subst hp; exact OF.step (fun t q => XS.ladd W.here W.hx rfl (hb W.by hd) rfl q) k1
theorem o_lsub {x y : Int64} (W : OW p l e R s m args below meth c Z B ml own nm rt n0 z0 T h kk nn) (hd : decode B pc = .ok (.lsub, 1)) (hp : pc + 1 = pc')
    (k1 : OF p e below n1 z1 EN Q T (mkF m pc' L (.long (x - y) :: S))) : OF p e below n1 z1 EN Q T (mkF m pc L (.long y :: .long x :: S)) := by
  subst hp; exact OF.step (fun t q => XS.lsub W.here W.hx rfl (hb W.by hd) rfl q) k1
theorem o_lmul {x y : Int64} (W : OW p l e R s m args below meth c Z B ml own nm rt n0 z0 T h kk nn) (hd : decode B pc = .ok (.lmul, 1)) (hp : pc + 1 = pc')
    (k1 : OF p e below n1 z1 EN Q T (mkF m pc' L (.long (x * y) :: S))) : OF p e below n1 z1 EN Q T (mkF m pc L (.long y :: .long x :: S)) := by
  subst hp; exact OF.step (fun t q => XS.lmul W.here W.hx rfl (hb W.by hd) rfl q) k1
theorem o_land {x y : Int64} (W : OW p l e R s m args below meth c Z B ml own nm rt n0 z0 T h kk nn) (hd : decode B pc = .ok (.land, 1)) (hp : pc + 1 = pc')
    (k1 : OF p e below n1 z1 EN Q T (mkF m pc' L (.long (x &&& y) :: S))) : OF p e below n1 z1 EN Q T (mkF m pc L (.long y :: .long x :: S)) := by
  subst hp; exact OF.step (fun t q => XS.land W.here W.hx rfl (hb W.by hd) rfl q) k1
theorem o_lor {x y : Int64} (W : OW p l e R s m args below meth c Z B ml own nm rt n0 z0 T h kk nn) (hd : decode B pc = .ok (.lor, 1)) (hp : pc + 1 = pc')
    (k1 : OF p e below n1 z1 EN Q T (mkF m pc' L (.long (x ||| y) :: S))) : OF p e below n1 z1 EN Q T (mkF m pc L (.long y :: .long x :: S)) := by
  subst hp; exact OF.step (fun t q => XS.lor W.here W.hx rfl (hb W.by hd) rfl q) k1
theorem o_lxor {x y : Int64} (W : OW p l e R s m args below meth c Z B ml own nm rt n0 z0 T h kk nn) (hd : decode B pc = .ok (.lxor, 1)) (hp : pc + 1 = pc')
    (k1 : OF p e below n1 z1 EN Q T (mkF m pc' L (.long (x ^^^ y) :: S))) : OF p e below n1 z1 EN Q T (mkF m pc L (.long y :: .long x :: S)) := by
  subst hp; exact OF.step (fun t q => XS.lxor W.here W.hx rfl (hb W.by hd) rfl q) k1
theorem o_ldiv {x y : Int64} (W : OW p l e R s m args below meth c Z B ml own nm rt n0 z0 T h kk nn) (hd : decode B pc = .ok (.ldiv, 1)) (hy : y ≠ 0) (hp : pc + 1 = pc')
    (k1 : OF p e below n1 z1 EN Q T (mkF m pc' L (.long (x / y) :: S))) : OF p e below n1 z1 EN Q T (mkF m pc L (.long y :: .long x :: S)) := by
  subst hp; exact OF.step (fun t q => XS.ldiv W.here W.hx rfl (hb W.by hd) rfl hy q) k1
theorem o_lrem {x y : Int64} (W : OW p l e R s m args below meth c Z B ml own nm rt n0 z0 T h kk nn) (hd : decode B pc = .ok (.lrem, 1)) (hy : y ≠ 0) (hp : pc + 1 = pc')
    (k1 : OF p e below n1 z1 EN Q T (mkF m pc' L (.long (x - (x / y) * y) :: S))) : OF p e below n1 z1 EN Q T (mkF m pc L (.long y :: .long x :: S)) := by
  subst hp; exact OF.step (fun t q => XS.lrem W.here W.hx rfl (hb W.by hd) rfl hy q) k1
theorem o_lshl {x : Int64} {y : Int32} (W : OW p l e R s m args below meth c Z B ml own nm rt n0 z0 T h kk nn) (hd : decode B pc = .ok (.lshl, 1)) (hp : pc + 1 = pc')
    (k1 : OF p e below n1 z1 EN Q T (mkF m pc' L (.long (x <<< (y &&& 0x3f).toInt64) :: S))) : OF p e below n1 z1 EN Q T (mkF m pc L (.int y :: .long x :: S)) := by
  subst hp; exact OF.step (fun t q => XS.lshl W.here W.hx rfl (hb W.by hd) rfl q) k1
theorem o_lshr {x : Int64} {y : Int32} (W : OW p l e R s m args below meth c Z B ml own nm rt n0 z0 T h kk nn) (hd : decode B pc = .ok (.lshr, 1)) (hp : pc + 1 = pc')
    (k1 : OF p e below n1 z1 EN Q T (mkF m pc' L (.long (x >>> (y &&& 0x3f).toInt64) :: S))) : OF p e below n1 z1 EN Q T (mkF m pc L (.int y :: .long x :: S)) := by
  subst hp; exact OF.step (fun t q => XS.lshr W.here W.hx rfl (hb W.by hd) rfl q) k1
theorem o_lushr {x : Int64} {y : Int32} (W : OW p l e R s m args below meth c Z B ml own nm rt n0 z0 T h kk nn) (hd : decode B pc = .ok (.lushr, 1)) (hp : pc + 1 = pc')
    (k1 : OF p e below n1 z1 EN Q T (mkF m pc' L (.long ((x.toUInt64 >>> (y &&& 0x3f).toInt64.toUInt64).toInt64) :: S))) : OF p e below n1 z1 EN Q T (mkF m pc L (.int y :: .long x :: S)) := by
  subst hp; exact OF.step (fun t q => XS.lushr W.here W.hx rfl (hb W.by hd) rfl q) k1
theorem o_i2b {x : Int32} (W : OW p l e R s m args below meth c Z B ml own nm rt n0 z0 T h kk nn) (hd : decode B pc = .ok (.i2b, 1)) (hp : pc + 1 = pc')
    (k1 : OF p e below n1 z1 EN Q T (mkF m pc' L (.int (x.toInt8.toInt32) :: S))) : OF p e below n1 z1 EN Q T (mkF m pc L (.int x :: S)) := by
  subst hp; exact OF.step (fun t q => XS.i2b W.here W.hx rfl (hb W.by hd) rfl q) k1
theorem o_i2c {x : Int32} (W : OW p l e R s m args below meth c Z B ml own nm rt n0 z0 T h kk nn) (hd : decode B pc = .ok (.i2c, 1)) (hp : pc + 1 = pc')
    (k1 : OF p e below n1 z1 EN Q T (mkF m pc' L (.int (x.toUInt32.toUInt16.toUInt32.toInt32) :: S))) : OF p e below n1 z1 EN Q T (mkF m pc L (.int x :: S)) := by
  subst hp; exact OF.step (fun t q => XS.i2c W.here W.hx rfl (hb W.by hd) rfl q) k1
theorem o_i2s {x : Int32} (W : OW p l e R s m args below meth c Z B ml own nm rt n0 z0 T h kk nn) (hd : decode B pc = .ok (.i2s, 1)) (hp : pc + 1 = pc')
    (k1 : OF p e below n1 z1 EN Q T (mkF m pc' L (.int (x.toInt16.toInt32) :: S))) : OF p e below n1 z1 EN Q T (mkF m pc L (.int x :: S)) := by
  subst hp; exact OF.step (fun t q => XS.i2s W.here W.hx rfl (hb W.by hd) rfl q) k1
theorem o_i2l {x : Int32} (W : OW p l e R s m args below meth c Z B ml own nm rt n0 z0 T h kk nn) (hd : decode B pc = .ok (.i2l, 1)) (hp : pc + 1 = pc')
    (k1 : OF p e below n1 z1 EN Q T (mkF m pc' L (.long (x.toInt64) :: S))) : OF p e below n1 z1 EN Q T (mkF m pc L (.int x :: S)) := by
  subst hp; exact OF.step (fun t q => XS.i2l W.here W.hx rfl (hb W.by hd) rfl q) k1
theorem o_l2i {x : Int64} (W : OW p l e R s m args below meth c Z B ml own nm rt n0 z0 T h kk nn) (hd : decode B pc = .ok (.l2i, 1)) (hp : pc + 1 = pc')
    (k1 : OF p e below n1 z1 EN Q T (mkF m pc' L (.int (x.toInt32) :: S))) : OF p e below n1 z1 EN Q T (mkF m pc L (.long x :: S)) := by
  subst hp; exact OF.step (fun t q => XS.l2i W.here W.hx rfl (hb W.by hd) rfl q) k1
theorem o_dup {x : Value} (W : OW p l e R s m args below meth c Z B ml own nm rt n0 z0 T h kk nn) (hd : decode B pc = .ok (.dup, 1)) (hc : x.category = 1) (hp : pc + 1 = pc')
    (k1 : OF p e below n1 z1 EN Q T (mkF m pc' L (x :: x :: S))) : OF p e below n1 z1 EN Q T (mkF m pc L (x :: S)) := by
  subst hp; exact OF.step (fun t q => XS.dup W.here W.hx rfl (hb W.by hd) rfl hc q) k1
theorem o_pop {x : Value} (W : OW p l e R s m args below meth c Z B ml own nm rt n0 z0 T h kk nn) (hd : decode B pc = .ok (.pop, 1)) (hc : x.category = 1) (hp : pc + 1 = pc')
    (k1 : OF p e below n1 z1 EN Q T (mkF m pc' L S)) : OF p e below n1 z1 EN Q T (mkF m pc L (x :: S)) := by
  subst hp; exact OF.step (fun t q => XS.pop W.here W.hx rfl (hb W.by hd) rfl hc q) k1
theorem o_dup2 {x y : Value} (W : OW p l e R s m args below meth c Z B ml own nm rt n0 z0 T h kk nn) (hd : decode B pc = .ok (.dup2, 1)) (hc : x.category = 1) (hc' : y.category = 1) (hp : pc + 1 = pc')
    (k1 : OF p e below n1 z1 EN Q T (mkF m pc' L (x :: y :: x :: y :: S))) : OF p e below n1 z1 EN Q T (mkF m pc L (x :: y :: S)) := by
  subst hp; exact OF.step (fun t q => XT.dup2 W.here W.hx rfl (hb W.by hd) rfl hc hc' q) k1
theorem o_iinc {i : Nat} {z : Int} {x : Int32} (W : OW p l e R s m args below meth c Z B ml own nm rt n0 z0 T h kk nn) (hd : decode B pc = .ok (.iinc i z, 3)) (hl : L[i]? = some (.val (.int x))) (hl' : storeLocals L i (.int (x + Int32.ofInt z)) = some L') (hp : pc + 3 = pc')
    (k1 : OF p e below n1 z1 EN Q T (mkF m pc' L' S)) : OF p e below n1 z1 EN Q T (mkF m pc L S) := by
  subst hp; exact OF.step (fun t q => XS.iinc W.here W.hx rfl (hb W.by hd) hl hl' q) k1
theorem o_goto {o : Int} (W : OW p l e R s m args below meth c Z B ml own nm rt n0 z0 T h kk nn) (hd : decode B pc = .ok (.goto o, 3)) (ho : 0 ≤ (pc : Int) + o) (hq : ((pc : Int) + o).toNat = pq)
    (k1 : OF p e below n1 z1 EN Q T (mkF m pq L S)) : OF p e below n1 z1 EN Q T (mkF m pc L S) := OF.step (fun t q => XS.goto W.here W.hx rfl rfl (hb W.by hd) ho hq q) k1
theorem o_lt {x y : Int32} (q : x.toInt < y.toInt) : x < y := Int32.lt_iff_toInt_lt.mpr q
theorem o_nlt {x y : Int32} (q : y.toInt ≤ x.toInt) : ¬ x < y := fun z => by rw [Int32.lt_iff_toInt_lt] at z; omega
theorem o_eq {x y : Int32} (q : x.toInt = y.toInt) : x = y := Int32.toInt_inj.mp q
theorem o_ne {x y : Int32} (q : ¬ x.toInt = y.toInt) : ¬ x = y := fun z => q (congrArg Int32.toInt z)
theorem o_zero : (0 : Int32).toInt = 0 := rfl
theorem o_llt {x y : Int64} (q : x.toInt < y.toInt) : x < y := Int64.lt_iff_toInt_lt.mpr q
theorem o_nllt {x y : Int64} (q : y.toInt ≤ x.toInt) : ¬ x < y := fun z => by rw [Int64.lt_iff_toInt_lt] at z; omega
theorem o_leq {x y : Int64} (q : x.toInt = y.toInt) : x = y := Int64.toInt_inj.mp q
theorem o_lne {x y : Int64} (q : ¬ x.toInt = y.toInt) : ¬ x = y := fun z => q (congrArg Int64.toInt z)
theorem o_icmp_lt {x y : Int32} {o : Int} (W : OW p l e R s m args below meth c Z B ml own nm rt n0 z0 T h kk nn) (hd : decode B pc = .ok (.if_icmp .lt o, 3)) (ho : 0 ≤ (pc : Int) + o) (hq : ((pc : Int) + o).toNat = pq) (hp : pc + 3 = pc')
    (ky : x.toInt < y.toInt → OF p e below n1 z1 EN Q T (mkF m pq L S)) (kn : y.toInt ≤ x.toInt → OF p e below n1 z1 EN Q T (mkF m pc' L S)) : OF p e below n1 z1 EN Q T (mkF m pc L (.int y :: .int x :: S)) := by
  subst hp
  rcases Int.lt_or_le (x.toInt) (y.toInt) with q | q
  · exact OF.step (fun t z => XS.icmpYes W.here W.hx rfl rfl (hb W.by hd) rfl (tlt (o_lt q)).1 ho hq z) (ky q)
  · exact OF.step (fun t z => XS.icmpNo W.here W.hx rfl (hb W.by hd) rfl (flt (o_nlt q)).1 z) (kn q)
theorem o_icmp_ge {x y : Int32} {o : Int} (W : OW p l e R s m args below meth c Z B ml own nm rt n0 z0 T h kk nn) (hd : decode B pc = .ok (.if_icmp .ge o, 3)) (ho : 0 ≤ (pc : Int) + o) (hq : ((pc : Int) + o).toNat = pq) (hp : pc + 3 = pc')
    (ky : y.toInt ≤ x.toInt → OF p e below n1 z1 EN Q T (mkF m pq L S)) (kn : x.toInt < y.toInt → OF p e below n1 z1 EN Q T (mkF m pc' L S)) : OF p e below n1 z1 EN Q T (mkF m pc L (.int y :: .int x :: S)) := by
  subst hp
  rcases (Int.lt_or_le (x.toInt) (y.toInt)).symm with q | q
  · exact OF.step (fun t z => XS.icmpYes W.here W.hx rfl rfl (hb W.by hd) rfl (flt (o_nlt q)).2.1 ho hq z) (ky q)
  · exact OF.step (fun t z => XS.icmpNo W.here W.hx rfl (hb W.by hd) rfl (tlt (o_lt q)).2.1 z) (kn q)
theorem o_icmp_gt {x y : Int32} {o : Int} (W : OW p l e R s m args below meth c Z B ml own nm rt n0 z0 T h kk nn) (hd : decode B pc = .ok (.if_icmp .gt o, 3)) (ho : 0 ≤ (pc : Int) + o) (hq : ((pc : Int) + o).toNat = pq) (hp : pc + 3 = pc')
    (ky : y.toInt < x.toInt → OF p e below n1 z1 EN Q T (mkF m pq L S)) (kn : x.toInt ≤ y.toInt → OF p e below n1 z1 EN Q T (mkF m pc' L S)) : OF p e below n1 z1 EN Q T (mkF m pc L (.int y :: .int x :: S)) := by
  subst hp
  rcases Int.lt_or_le (y.toInt) (x.toInt) with q | q
  · exact OF.step (fun t z => XS.icmpYes W.here W.hx rfl rfl (hb W.by hd) rfl (tlt (o_lt q)).2.2.1 ho hq z) (ky q)
  · exact OF.step (fun t z => XS.icmpNo W.here W.hx rfl (hb W.by hd) rfl (flt (o_nlt q)).2.2.1 z) (kn q)
theorem o_icmp_le {x y : Int32} {o : Int} (W : OW p l e R s m args below meth c Z B ml own nm rt n0 z0 T h kk nn) (hd : decode B pc = .ok (.if_icmp .le o, 3)) (ho : 0 ≤ (pc : Int) + o) (hq : ((pc : Int) + o).toNat = pq) (hp : pc + 3 = pc')
    (ky : x.toInt ≤ y.toInt → OF p e below n1 z1 EN Q T (mkF m pq L S)) (kn : y.toInt < x.toInt → OF p e below n1 z1 EN Q T (mkF m pc' L S)) : OF p e below n1 z1 EN Q T (mkF m pc L (.int y :: .int x :: S)) := by
  subst hp
  rcases (Int.lt_or_le (y.toInt) (x.toInt)).symm with q | q
  · exact OF.step (fun t z => XS.icmpYes W.here W.hx rfl rfl (hb W.by hd) rfl (flt (o_nlt q)).2.2.2 ho hq z) (ky q)
  · exact OF.step (fun t z => XS.icmpNo W.here W.hx rfl (hb W.by hd) rfl (tlt (o_lt q)).2.2.2 z) (kn q)
theorem o_icmp_eq {x y : Int32} {o : Int} (W : OW p l e R s m args below meth c Z B ml own nm rt n0 z0 T h kk nn) (hd : decode B pc = .ok (.if_icmp .eq o, 3)) (ho : 0 ≤ (pc : Int) + o) (hq : ((pc : Int) + o).toNat = pq) (hp : pc + 3 = pc')
    (ky : x.toInt = y.toInt → OF p e below n1 z1 EN Q T (mkF m pq L S)) (kn : ¬ x.toInt = y.toInt → OF p e below n1 z1 EN Q T (mkF m pc' L S)) : OF p e below n1 z1 EN Q T (mkF m pc L (.int y :: .int x :: S)) := by
  subst hp
  rcases Decidable.em (x.toInt = y.toInt) with q | q
  · exact OF.step (fun t z => XS.icmpYes W.here W.hx rfl rfl (hb W.by hd) rfl (teq (o_eq q)).1 ho hq z) (ky q)
  · exact OF.step (fun t z => XS.icmpNo W.here W.hx rfl (hb W.by hd) rfl (feq (o_ne q)).1 z) (kn q)
theorem o_icmp_ne {x y : Int32} {o : Int} (W : OW p l e R s m args below meth c Z B ml own nm rt n0 z0 T h kk nn) (hd : decode B pc = .ok (.if_icmp .ne o, 3)) (ho : 0 ≤ (pc : Int) + o) (hq : ((pc : Int) + o).toNat = pq) (hp : pc + 3 = pc')
    (ky : ¬ x.toInt = y.toInt → OF p e below n1 z1 EN Q T (mkF m pq L S)) (kn : x.toInt = y.toInt → OF p e below n1 z1 EN Q T (mkF m pc' L S)) : OF p e below n1 z1 EN Q T (mkF m pc L (.int y :: .int x :: S)) := by
  subst hp
  rcases (Decidable.em (x.toInt = y.toInt)).symm with q | q
  · exact OF.step (fun t z => XS.icmpYes W.here W.hx rfl rfl (hb W.by hd) rfl (feq (o_ne q)).2 ho hq z) (ky q)
  · exact OF.step (fun t z => XS.icmpNo W.here W.hx rfl (hb W.by hd) rfl (teq (o_eq q)).2 z) (kn q)
theorem o_if_lt {x : Int32} {o : Int} (W : OW p l e R s m args below meth c Z B ml own nm rt n0 z0 T h kk nn) (hd : decode B pc = .ok (.ifCond .lt o, 3)) (ho : 0 ≤ (pc : Int) + o) (hq : ((pc : Int) + o).toNat = pq) (hp : pc + 3 = pc')
    (ky : x.toInt < 0 → OF p e below n1 z1 EN Q T (mkF m pq L S)) (kn : 0 ≤ x.toInt → OF p e below n1 z1 EN Q T (mkF m pc' L S)) : OF p e below n1 z1 EN Q T (mkF m pc L (.int x :: S)) := by
  subst hp
  rcases Int.lt_or_le (x.toInt) (0) with q | q
  · exact OF.step (fun t z => XS.ifYes W.here W.hx rfl rfl (hb W.by hd) rfl ((if0 _ _).trans (tlt (o_lt (x := x) (y := 0) q)).1) ho hq z) (ky q)
  · exact OF.step (fun t z => XS.ifNo W.here W.hx rfl (hb W.by hd) rfl ((if0 _ _).trans (flt (o_nlt (x := x) (y := 0) q)).1) z) (kn q)
theorem o_if_ge {x : Int32} {o : Int} (W : OW p l e R s m args below meth c Z B ml own nm rt n0 z0 T h kk nn) (hd : decode B pc = .ok (.ifCond .ge o, 3)) (ho : 0 ≤ (pc : Int) + o) (hq : ((pc : Int) + o).toNat = pq) (hp : pc + 3 = pc')
    (ky : 0 ≤ x.toInt → OF p e below n1 z1 EN Q T (mkF m pq L S)) (kn : x.toInt < 0 → OF p e below n1 z1 EN Q T (mkF m pc' L S)) : OF p e below n1 z1 EN Q T (mkF m pc L (.int x :: S)) := by
  subst hp
  rcases (Int.lt_or_le (x.toInt) (0)).symm with q | q
  · exact OF.step (fun t z => XS.ifYes W.here W.hx rfl rfl (hb W.by hd) rfl ((if0 _ _).trans (flt (o_nlt (x := x) (y := 0) q)).2.1) ho hq z) (ky q)
  · exact OF.step (fun t z => XS.ifNo W.here W.hx rfl (hb W.by hd) rfl ((if0 _ _).trans (tlt (o_lt (x := x) (y := 0) q)).2.1) z) (kn q)
theorem o_if_gt {x : Int32} {o : Int} (W : OW p l e R s m args below meth c Z B ml own nm rt n0 z0 T h kk nn) (hd : decode B pc = .ok (.ifCond .gt o, 3)) (ho : 0 ≤ (pc : Int) + o) (hq : ((pc : Int) + o).toNat = pq) (hp : pc + 3 = pc')
    (ky : 0 < x.toInt → OF p e below n1 z1 EN Q T (mkF m pq L S)) (kn : x.toInt ≤ 0 → OF p e below n1 z1 EN Q T (mkF m pc' L S)) : OF p e below n1 z1 EN Q T (mkF m pc L (.int x :: S)) := by
  subst hp
  rcases Int.lt_or_le (0) (x.toInt) with q | q
  · exact OF.step (fun t z => XS.ifYes W.here W.hx rfl rfl (hb W.by hd) rfl ((if0 _ _).trans (tlt (o_lt (x := 0) (y := x) q)).2.2.1) ho hq z) (ky q)
  · exact OF.step (fun t z => XS.ifNo W.here W.hx rfl (hb W.by hd) rfl ((if0 _ _).trans (flt (o_nlt (x := 0) (y := x) q)).2.2.1) z) (kn q)
theorem o_if_le {x : Int32} {o : Int} (W : OW p l e R s m args below meth c Z B ml own nm rt n0 z0 T h kk nn) (hd : decode B pc = .ok (.ifCond .le o, 3)) (ho : 0 ≤ (pc : Int) + o) (hq : ((pc : Int) + o).toNat = pq) (hp : pc + 3 = pc')
    (ky : x.toInt ≤ 0 → OF p e below n1 z1 EN Q T (mkF m pq L S)) (kn : 0 < x.toInt → OF p e below n1 z1 EN Q T (mkF m pc' L S)) : OF p e below n1 z1 EN Q T (mkF m pc L (.int x :: S)) := by
  subst hp
  rcases (Int.lt_or_le (0) (x.toInt)).symm with q | q
  · exact OF.step (fun t z => XS.ifYes W.here W.hx rfl rfl (hb W.by hd) rfl ((if0 _ _).trans (flt (o_nlt (x := 0) (y := x) q)).2.2.2) ho hq z) (ky q)
  · exact OF.step (fun t z => XS.ifNo W.here W.hx rfl (hb W.by hd) rfl ((if0 _ _).trans (tlt (o_lt (x := 0) (y := x) q)).2.2.2) z) (kn q)
theorem o_if_eq {x : Int32} {o : Int} (W : OW p l e R s m args below meth c Z B ml own nm rt n0 z0 T h kk nn) (hd : decode B pc = .ok (.ifCond .eq o, 3)) (ho : 0 ≤ (pc : Int) + o) (hq : ((pc : Int) + o).toNat = pq) (hp : pc + 3 = pc')
    (ky : x.toInt = 0 → OF p e below n1 z1 EN Q T (mkF m pq L S)) (kn : ¬ x.toInt = 0 → OF p e below n1 z1 EN Q T (mkF m pc' L S)) : OF p e below n1 z1 EN Q T (mkF m pc L (.int x :: S)) := by
  subst hp
  rcases Decidable.em (x.toInt = 0) with q | q
  · exact OF.step (fun t z => XS.ifYes W.here W.hx rfl rfl (hb W.by hd) rfl ((if0 _ _).trans (teq (o_eq (x := x) (y := 0) q)).1) ho hq z) (ky q)
  · exact OF.step (fun t z => XS.ifNo W.here W.hx rfl (hb W.by hd) rfl ((if0 _ _).trans (feq (o_ne (x := x) (y := 0) q)).1) z) (kn q)
theorem o_if_ne {x : Int32} {o : Int} (W : OW p l e R s m args below meth c Z B ml own nm rt n0 z0 T h kk nn) (hd : decode B pc = .ok (.ifCond .ne o, 3)) (ho : 0 ≤ (pc : Int) + o) (hq : ((pc : Int) + o).toNat = pq) (hp : pc + 3 = pc')
    (ky : ¬ x.toInt = 0 → OF p e below n1 z1 EN Q T (mkF m pq L S)) (kn : x.toInt = 0 → OF p e below n1 z1 EN Q T (mkF m pc' L S)) : OF p e below n1 z1 EN Q T (mkF m pc L (.int x :: S)) := by
  subst hp
  rcases (Decidable.em (x.toInt = 0)).symm with q | q
  · exact OF.step (fun t z => XS.ifYes W.here W.hx rfl rfl (hb W.by hd) rfl ((if0 _ _).trans (feq (o_ne (x := x) (y := 0) q)).2) ho hq z) (ky q)
  · exact OF.step (fun t z => XS.ifNo W.here W.hx rfl (hb W.by hd) rfl ((if0 _ _).trans (teq (o_eq (x := x) (y := 0) q)).2) z) (kn q)
theorem o_lcmp_lt {x y : Int64} {o : Int} {pc1 : Nat} (W : OW p l e R s m args below meth c Z B ml own nm rt n0 z0 T h kk nn) (hd : decode B pc = .ok (.lcmp, 1)) (h1 : pc + 1 = pc1) (hd2 : decode B pc1 = .ok (.ifCond .lt o, 3)) (ho : 0 ≤ (pc1 : Int) + o) (hq : ((pc1 : Int) + o).toNat = pq) (hp : pc1 + 3 = pc')
    (ky : x.toInt < y.toInt → OF p e below n1 z1 EN Q T (mkF m pq L S)) (kn : y.toInt ≤ x.toInt → OF p e below n1 z1 EN Q T (mkF m pc' L S)) : OF p e below n1 z1 EN Q T (mkF m pc L (.long y :: .long x :: S)) := by
  subst h1; subst hp
  refine OF.step (T' := T) (f' := mkF m (pc + 1) L (.int (lcmpW x y) :: S)) (fun t z => XS.lcmp W.here W.hx rfl (hb W.by hd) rfl z) ?_
  rcases Int.lt_or_le (x.toInt) (y.toInt) with q | q
  · exact OF.step (fun t z => XS.ifYes W.here W.hx rfl rfl (hb W.by hd2) rfl ((if0 _ _).trans (tlt ((lw_lt x y).mpr (o_llt q))).1) ho hq z) (ky q)
  · exact OF.step (fun t z => XS.ifNo W.here W.hx rfl (hb W.by hd2) rfl ((if0 _ _).trans (flt (fun z => o_nllt q ((lw_lt x y).mp z))).1) z) (kn q)
theorem o_lcmp_ge {x y : Int64} {o : Int} {pc1 : Nat} (W : OW p l e R s m args below meth c Z B ml own nm rt n0 z0 T h kk nn) (hd : decode B pc = .ok (.lcmp, 1)) (h1 : pc + 1 = pc1) (hd2 : decode B pc1 = .ok (.ifCond .ge o, 3)) (ho : 0 ≤ (pc1 : Int) + o) (hq : ((pc1 : Int) + o).toNat = pq) (hp : pc1 + 3 = pc')
    (ky : y.toInt ≤ x.toInt → OF p e below n1 z1 EN Q T (mkF m pq L S)) (kn : x.toInt < y.toInt → OF p e below n1 z1 EN Q T (mkF m pc' L S)) : OF p e below n1 z1 EN Q T (mkF m pc L (.long y :: .long x :: S)) := by
  subst h1; subst hp
  refine OF.step (T' := T) (f' := mkF m (pc + 1) L (.int (lcmpW x y) :: S)) (fun t z => XS.lcmp W.here W.hx rfl (hb W.by hd) rfl z) ?_
  rcases (Int.lt_or_le (x.toInt) (y.toInt)).symm with q | q
  · exact OF.step (fun t z => XS.ifYes W.here W.hx rfl rfl (hb W.by hd2) rfl ((if0 _ _).trans (flt (fun z => o_nllt q ((lw_lt x y).mp z))).2.1) ho hq z) (ky q)
  · exact OF.step (fun t z => XS.ifNo W.here W.hx rfl (hb W.by hd2) rfl ((if0 _ _).trans (tlt ((lw_lt x y).mpr (o_llt q))).2.1) z) (kn q)
theorem o_lcmp_gt {x y : Int64} {o : Int} {pc1 : Nat} (W : OW p l e R s m args below meth c Z B ml own nm rt n0 z0 T h kk nn) (hd : decode B pc = .ok (.lcmp, 1)) (h1 : pc + 1 = pc1) (hd2 : decode B pc1 = .ok (.ifCond .gt o, 3)) (ho : 0 ≤ (pc1 : Int) + o) (hq : ((pc1 : Int) + o).toNat = pq) (hp : pc1 + 3 = pc')
    (ky : y.toInt < x.toInt → OF p e below n1 z1 EN Q T (mkF m pq L S)) (kn : x.toInt ≤ y.toInt → OF p e below n1 z1 EN Q T (mkF m pc' L S)) : OF p e below n1 z1 EN Q T (mkF m pc L (.long y :: .long x :: S)) := by
  subst h1; subst hp
  refine OF.step (T' := T) (f' := mkF m (pc + 1) L (.int (lcmpW x y) :: S)) (fun t z => XS.lcmp W.here W.hx rfl (hb W.by hd) rfl z) ?_
  rcases Int.lt_or_le (y.toInt) (x.toInt) with q | q
  · exact OF.step (fun t z => XS.ifYes W.here W.hx rfl rfl (hb W.by hd2) rfl ((if0 _ _).trans (tlt ((lw_gt x y).mpr (o_llt q))).2.2.1) ho hq z) (ky q)
  · exact OF.step (fun t z => XS.ifNo W.here W.hx rfl (hb W.by hd2) rfl ((if0 _ _).trans (flt (fun z => o_nllt q ((lw_gt x y).mp z))).2.2.1) z) (kn q)
theorem o_lcmp_le {x y : Int64} {o : Int} {pc1 : Nat} (W : OW p l e R s m args below meth c Z B ml own nm rt n0 z0 T h kk nn) (hd : decode B pc = .ok (.lcmp, 1)) (h1 : pc + 1 = pc1) (hd2 : decode B pc1 = .ok (.ifCond .le o, 3)) (ho : 0 ≤ (pc1 : Int) + o) (hq : ((pc1 : Int) + o).toNat = pq) (hp : pc1 + 3 = pc')
    (ky : x.toInt ≤ y.toInt → OF p e below n1 z1 EN Q T (mkF m pq L S)) (kn : y.toInt < x.toInt → OF p e below n1 z1 EN Q T (mkF m pc' L S)) : OF p e below n1 z1 EN Q T (mkF m pc L (.long y :: .long x :: S)) := by
  subst h1; subst hp
  refine OF.step (T' := T) (f' := mkF m (pc + 1) L (.int (lcmpW x y) :: S)) (fun t z => XS.lcmp W.here W.hx rfl (hb W.by hd) rfl z) ?_
  rcases (Int.lt_or_le (y.toInt) (x.toInt)).symm with q | q
  · exact OF.step (fun t z => XS.ifYes W.here W.hx rfl rfl (hb W.by hd2) rfl ((if0 _ _).trans (flt (fun z => o_nllt q ((lw_gt x y).mp z))).2.2.2) ho hq z) (ky q)
  · exact OF.step (fun t z => XS.ifNo W.here W.hx rfl (hb W.by hd2) rfl ((if0 _ _).trans (tlt ((lw_gt x y).mpr (o_llt q))).2.2.2) z) (kn q)
theorem o_lcmp_eq {x y : Int64} {o : Int} {pc1 : Nat} (W : OW p l e R s m args below meth c Z B ml own nm rt n0 z0 T h kk nn) (hd : decode B pc = .ok (.lcmp, 1)) (h1 : pc + 1 = pc1) (hd2 : decode B pc1 = .ok (.ifCond .eq o, 3)) (ho : 0 ≤ (pc1 : Int) + o) (hq : ((pc1 : Int) + o).toNat = pq) (hp : pc1 + 3 = pc')
    (ky : x.toInt = y.toInt → OF p e below n1 z1 EN Q T (mkF m pq L S)) (kn : ¬ x.toInt = y.toInt → OF p e below n1 z1 EN Q T (mkF m pc' L S)) : OF p e below n1 z1 EN Q T (mkF m pc L (.long y :: .long x :: S)) := by
  subst h1; subst hp
  refine OF.step (T' := T) (f' := mkF m (pc + 1) L (.int (lcmpW x y) :: S)) (fun t z => XS.lcmp W.here W.hx rfl (hb W.by hd) rfl z) ?_
  rcases Decidable.em (x.toInt = y.toInt) with q | q
  · exact OF.step (fun t z => XS.ifYes W.here W.hx rfl rfl (hb W.by hd2) rfl ((if0 _ _).trans (teq ((lw_eq x y).mpr (o_leq q))).1) ho hq z) (ky q)
  · exact OF.step (fun t z => XS.ifNo W.here W.hx rfl (hb W.by hd2) rfl ((if0 _ _).trans (feq (fun z => o_lne q ((lw_eq x y).mp z))).1) z) (kn q)
theorem o_lcmp_ne {x y : Int64} {o : Int} {pc1 : Nat} (W : OW p l e R s m args below meth c Z B ml own nm rt n0 z0 T h kk nn) (hd : decode B pc = .ok (.lcmp, 1)) (h1 : pc + 1 = pc1) (hd2 : decode B pc1 = .ok (.ifCond .ne o, 3)) (ho : 0 ≤ (pc1 : Int) + o) (hq : ((pc1 : Int) + o).toNat = pq) (hp : pc1 + 3 = pc')
    (ky : ¬ x.toInt = y.toInt → OF p e below n1 z1 EN Q T (mkF m pq L S)) (kn : x.toInt = y.toInt → OF p e below n1 z1 EN Q T (mkF m pc' L S)) : OF p e below n1 z1 EN Q T (mkF m pc L (.long y :: .long x :: S)) := by
  subst h1; subst hp
  refine OF.step (T' := T) (f' := mkF m (pc + 1) L (.int (lcmpW x y) :: S)) (fun t z => XS.lcmp W.here W.hx rfl (hb W.by hd) rfl z) ?_
  rcases (Decidable.em (x.toInt = y.toInt)).symm with q | q
  · exact OF.step (fun t z => XS.ifYes W.here W.hx rfl rfl (hb W.by hd2) rfl ((if0 _ _).trans (feq (fun z => o_lne q ((lw_eq x y).mp z))).2) ho hq z) (ky q)
  · exact OF.step (fun t z => XS.ifNo W.here W.hx rfl (hb W.by hd2) rfl ((if0 _ _).trans (teq ((lw_eq x y).mpr (o_leq q))).2) z) (kn q)
abbrev QI (P : Int32 → Heap → Prop) : Option Value → Heap → Prop := fun v h => ∃ r, v = some (.int r) ∧ P r h
abbrev QJ (P : Int64 → Heap → Prop) : Option Value → Heap → Prop := fun v h => ∃ r, v = some (.long r) ∧ P r h
abbrev QA (P : Addr → Heap → Prop) : Option Value → Heap → Prop := fun v h => ∃ r, v = some (.ref r) ∧ P r h
abbrev QV (P : Heap → Prop) : Option Value → Heap → Prop := fun v h => v = none ∧ P h
theorem o_retN {t : FieldType} {z : Int32} (W : OW p l e R s m args below meth c Z B ml own nm rt n0 z0 T h kk nn) (hrt : rt = some t) (ht : t = .boolean ∨ t = .byte ∨ t = .char ∨ t = .short) (hd : decode B pc = .ok (.ireturn, 1)) (hk : kk ≤ kc) (hn : nn ≤ ns) (hQ : Q (some (.int (nar t z))) h) :
    OF p e below n0 z0 (ENn s kc ns) Q T (mkF m pc L (.int z :: S)) := by
  obtain ⟨⟨hx, hZ, hby, hml, hown, hnm, hr, hlk⟩, hz, hz', rfl, locs, X, N⟩ := W
  subst hrt
  obtain ⟨fs, hl, h1, h2, h3, h4⟩ := X.leave (v := some (.int (nar t z))) (fun q => by rw [hr] at q; cases q) hlk
  exact ⟨_, _, retN X hx hr ht (hb hby hd) hl, h1, h2, _, _, rfl, ⟨hQ, hz', N⟩, ⟨_, rfl⟩, h3, h4.mono hk hn⟩
theorem o_retI {z : Int32} (W : OW p l e R s m args below meth c Z B ml own nm rt n0 z0 T h kk nn) (hrt : rt = some .int) (hd : decode B pc = .ok (.ireturn, 1)) (hk : kk ≤ kc) (hn : nn ≤ ns) (hQ : Q (some (.int z)) h) :
    OF p e below n0 z0 (ENn s kc ns) Q T (mkF m pc L (.int z :: S)) := by
  obtain ⟨⟨hx, hZ, hby, hml, hown, hnm, hr, hlk⟩, hz, hz', rfl, locs, X, N⟩ := W
  subst hrt
  obtain ⟨fs, hl, h1, h2, h3, h4⟩ := X.leave (v := some (.int z)) (fun q => by rw [hr] at q; cases q) hlk
  exact ⟨_, _, retOut X hx hr rfl (Or.inl ⟨rfl, Or.inl rfl, _, rfl⟩) (hb hby hd) hl, h1, h2, _, _, rfl, ⟨hQ, hz', N⟩, ⟨_, rfl⟩, h3, h4.mono hk hn⟩
theorem o_retJ {z : Int64} (W : OW p l e R s m args below meth c Z B ml own nm rt n0 z0 T h kk nn) (hrt : rt = some .long) (hd : decode B pc = .ok (.lreturn, 1)) (hk : kk ≤ kc) (hn : nn ≤ ns) (hQ : Q (some (.long z)) h) :
    OF p e below n0 z0 (ENn s kc ns) Q T (mkF m pc L (.long z :: S)) := by
  obtain ⟨⟨hx, hZ, hby, hml, hown, hnm, hr, hlk⟩, hz, hz', rfl, locs, X, N⟩ := W
  subst hrt
  obtain ⟨fs, hl, h1, h2, h3, h4⟩ := X.leave (v := some (.long z)) (fun q => by rw [hr] at q; cases q) hlk
  exact ⟨_, _, retOut X hx hr rfl (Or.inr (Or.inl ⟨rfl, rfl, _, rfl⟩)) (hb hby hd) hl, h1, h2, _, _, rfl, ⟨hQ, hz', N⟩, ⟨_, rfl⟩, h3, h4.mono hk hn⟩
theorem o_retA {t : FieldType} {z : Value} (W : OW p l e R s m args below meth c Z B ml own nm rt n0 z0 T h kk nn) (hrt : rt = some t) (ht : t.isReference = true) (hv : z.isRef = true) (hnz : narrow t z = z) (hd : decode B pc = .ok (.areturn, 1)) (hk : kk ≤ kc) (hn : nn ≤ ns) (hQ : Q (some z) h) :
    OF p e below n0 z0 (ENn s kc ns) Q T (mkF m pc L (z :: S)) := by
  obtain ⟨⟨hx, hZ, hby, hml, hown, hnm, hr, hlk⟩, hz, hz', rfl, locs, X, N⟩ := W
  subst hrt
  obtain ⟨fs, hl, h1, h2, h3, h4⟩ := X.leave (v := some z) (fun q => by rw [hr] at q; cases q) hlk
  exact ⟨_, _, retOut X hx hr hnz (Or.inr (Or.inr (Or.inr (Or.inr ⟨rfl, ht, hv⟩)))) (hb hby hd) hl, h1, h2, _, _, rfl, ⟨hQ, hz', N⟩, ⟨_, rfl⟩, h3, h4.mono hk hn⟩
theorem o_retV (W : OW p l e R s m args below meth c Z B ml own nm rt n0 z0 T h kk nn) (hrt : rt = none) (hd : decode B pc = .ok (.return_, 1)) (hk : kk ≤ kc) (hn : nn ≤ ns) (hQ : Q none h) :
    OF p e below n0 z0 (ENn s kc ns) Q T (mkF m pc L []) := by
  obtain ⟨⟨hx, hZ, hby, hml, hown, hnm, hr, hlk⟩, hz, hz', rfl, locs, X, N⟩ := W
  subst hrt
  obtain ⟨fs, hl, h1, h2, h3, h4⟩ := X.leave (v := none) (fun _ => rfl) hlk
  exact ⟨_, _, X.returnOut hx hr (hb hby hd) hl, h1, h2, _, _, rfl, ⟨hQ, hz', N⟩, ⟨_, rfl⟩, h3, h4.mono hk hn⟩
/-- a body's contract: called with 'as' at the heap h0 it returns what Q says -/
def OCon (l : Launch) (Z : State) (y : MethodName) (B : ByteArray) (ml : Nat) (rt : Option FieldType) (ws : List Jvm.Cond) (rm : Room) (as : Array Value) (h0 : Heap) (n0 : Nat) (Q : Option Value → Heap → Prop) : Prop :=
  MetFree l y (head1 (Jvm.Cond.code y B ml rt :: ws) rm) (fun a U => a = as ∧ Z.Warmed39 U.vm ∧ U.heap = h0) (fun _ _ _ _ _ => True)
    (fun _ U o U' => ∃ v L, o = .returned v ∧ OQ Q h0.size n0 v U'.heap L ∧ FrameEnd U o U' L rm.cells rm.slots)
theorem OCon.mk {y : MethodName} {ws : List Jvm.Cond} {rm : Room} {as : Array Value} {h0 : Heap} (hpl : plainFor y = true) (hz : n0 ≤ h0.size)
    (body : ∀ (p : Program) (e : Env) (s : State) (m : MethodId) (below : List Frame) (meth : Method) (c : Code) (s₁ : State), OW p l e rm s m as below meth c Z B ml y.cls y.name rt n0 h0.size s₁ h0 0 0 → OF p e below n0 h0.size (ENn s rm.cells rm.slots) Q s₁ (entryFrame m as ml)) :
    OCon l Z y B ml rt ws rm as h0 n0 Q := by
  refine MetFree.of_bodySF hpl hisR ?_
  intro p e s m args below meth c s₁ Bd hml0 hP hK
  obtain ⟨rfl, hZ, hh⟩ := hP
  exact body p e s m below meth c s₁ ⟨⟨Bd.exec, hZ, Bd.bytes, hml0, findClass_of_methodNamed Bd.named, (name_of_methodNamed Bd.named Bd.method).1, Bd.returns, Bd.notSynchronized⟩, hz, Nat.le_refl _, by rw [← hh, Bd.state]; rfl, [], Stand.of_body Bd, Fr.nil _⟩
theorem o_callS {index : Nat} {y : MethodName} {B' : ByteArray} {ml' wt : Nat} {rt' : Option FieldType} {rm : Room} {as : Array Value} {Q' : Option Value → Heap → Prop} {argsL : List Value} {st : List Value} (W : OW p l e R s m args below meth c Z B ml own nm rt n0 z0 T h kk nn)
    (C : OCon l Z y B' ml' rt' [] rm as h n0 Q') (w1 : (Jvm.Cond.methodLink own index y).before a0 Z = true) (w2 : (Jvm.Cond.static y).before a0 Z = true) (w3 : (Jvm.Cond.initialized y.cls).before a0 Z = true) (w4 : (Jvm.Cond.code y B' ml' rt').before a0 Z = true)
    (hy : y.cls ≠ "java/lang/invoke/MethodHandle" ∧ y.cls ≠ "java/lang/invoke/VarHandle") (hlen : ∀ sig, parseMethodDescriptor y.desc = some sig → argsL.length = sig.parameters.length) (has : argsL.toArray = as) (hst : st = argsL.reverse ++ S) (hL : L.size = ml)
    (hwt : (S.map fun v => v.category).sum = wt) (hfr : rm.frames + 1 ≤ R.frames) (hlo : wt + (ml' + 11) + rm.locals ≤ R.locals) (hcl : kk + rm.cells ≤ R.cells) (hsl : nn + rm.slots ≤ R.slots) (hk' : kk + rm.cells = kk') (hn' : nn + rm.slots = nn')
    (hd : decode B pc = .ok (.invokestatic index, 3)) (hp : pc + 3 = pc')
    (k1 : ∀ v T' h', OW p l e R s m args below meth c Z B ml own nm rt n0 z0 T' h' kk' nn' → Q' v h' → h.size ≤ h'.size → OF p e below n1 z1 EN Q T' (mkF m pc' L (v.toList ++ S))) : OF p e below n1 z1 EN Q T (mkF m pc L st) := by
  subst hp has hk' hn' hst
  obtain ⟨cx, hz, hz', eT, locs, X, N⟩ := W
  obtain ⟨hx, hZ, hby, hml, hown, hnm, hr, hlk⟩ := cx
  obtain ⟨v, _, ⟨T', L2, k2, n2⟩, -, X2, ⟨Lc, hQ, l2, y2, z2⟩, st2⟩ := Jvm.LawKit.callS X hx (y := y) hown (mvT hZ w1) (mvT hZ w2) (mvT hZ w3) (mvT hZ w4) hy (backOf (W := wt) (Q := OQ Q' h.size n0) C hZ w4 w3 hfr hlo) (g := mkF m pc L (argsL.reverse ++ S)) rfl (hL.trans hml.symm) (argsL := argsL) (rest := S) hlen rfl
    (by show 2 * 0 + _ ≤ _; rw [hwt]; omega) (hb hby hd) (fun _ _ => ⟨rfl, eT, hcl, hsl⟩)
  dsimp only [Pt.U, Pt.locs, Pt.cells, Pt.slots] at X2 l2 y2 z2 st2 hQ
  subst l2 y2 z2
  obtain ⟨q1, q2, q3⟩ := hQ
  exact OF.step (fun t z => st2 t z) (k1 v T' T'.heap ⟨⟨hx, hZ, hby, hml, hown, hnm, hr, hlk⟩, hz, Nat.le_trans hz' q2, rfl, _, X2, Fr.app N q3⟩ q1 q2)
theorem o_callSI {index : Nat} {y : MethodName} {B' : ByteArray} {ml' wt : Nat} {rt' : Option FieldType} {rm : Room} {as : Array Value} {P' : Int32 → Heap → Prop} {argsL : List Value} {st : List Value} (W : OW p l e R s m args below meth c Z B ml own nm rt n0 z0 T h kk nn)
    (C : OCon l Z y B' ml' rt' [] rm as h n0 (QI P')) (w1 : (Jvm.Cond.methodLink own index y).before a0 Z = true) (w2 : (Jvm.Cond.static y).before a0 Z = true) (w3 : (Jvm.Cond.initialized y.cls).before a0 Z = true) (w4 : (Jvm.Cond.code y B' ml' rt').before a0 Z = true)
    (hy : y.cls ≠ "java/lang/invoke/MethodHandle" ∧ y.cls ≠ "java/lang/invoke/VarHandle") (hlen : ∀ sig, parseMethodDescriptor y.desc = some sig → argsL.length = sig.parameters.length) (has : argsL.toArray = as) (hst : st = argsL.reverse ++ S) (hL : L.size = ml)
    (hwt : (S.map fun v => v.category).sum = wt) (hfr : rm.frames + 1 ≤ R.frames) (hlo : wt + (ml' + 11) + rm.locals ≤ R.locals) (hcl : kk + rm.cells ≤ R.cells) (hsl : nn + rm.slots ≤ R.slots) (hk' : kk + rm.cells = kk') (hn' : nn + rm.slots = nn')
    (hd : decode B pc = .ok (.invokestatic index, 3)) (hp : pc + 3 = pc')
    (k1 : ∀ r T' h', OW p l e R s m args below meth c Z B ml own nm rt n0 z0 T' h' kk' nn' → P' r h' → h.size ≤ h'.size → OF p e below n1 z1 EN Q T' (mkF m pc' L (.int r :: S))) : OF p e below n1 z1 EN Q T (mkF m pc L st) :=
  o_callS W C w1 w2 w3 w4 hy hlen has hst hL hwt hfr hlo hcl hsl hk' hn' hd hp (fun v T' h' W' q z => by
    obtain ⟨r, rfl, q⟩ := q
    exact k1 r T' h' W' q z)
theorem o_callSJ {index : Nat} {y : MethodName} {B' : ByteArray} {ml' wt : Nat} {rt' : Option FieldType} {rm : Room} {as : Array Value} {P' : Int64 → Heap → Prop} {argsL : List Value} {st : List Value} (W : OW p l e R s m args below meth c Z B ml own nm rt n0 z0 T h kk nn)
    (C : OCon l Z y B' ml' rt' [] rm as h n0 (QJ P')) (w1 : (Jvm.Cond.methodLink own index y).before a0 Z = true) (w2 : (Jvm.Cond.static y).before a0 Z = true) (w3 : (Jvm.Cond.initialized y.cls).before a0 Z = true) (w4 : (Jvm.Cond.code y B' ml' rt').before a0 Z = true)
    (hy : y.cls ≠ "java/lang/invoke/MethodHandle" ∧ y.cls ≠ "java/lang/invoke/VarHandle") (hlen : ∀ sig, parseMethodDescriptor y.desc = some sig → argsL.length = sig.parameters.length) (has : argsL.toArray = as) (hst : st = argsL.reverse ++ S) (hL : L.size = ml)
    (hwt : (S.map fun v => v.category).sum = wt) (hfr : rm.frames + 1 ≤ R.frames) (hlo : wt + (ml' + 11) + rm.locals ≤ R.locals) (hcl : kk + rm.cells ≤ R.cells) (hsl : nn + rm.slots ≤ R.slots) (hk' : kk + rm.cells = kk') (hn' : nn + rm.slots = nn')
    (hd : decode B pc = .ok (.invokestatic index, 3)) (hp : pc + 3 = pc')
    (k1 : ∀ r T' h', OW p l e R s m args below meth c Z B ml own nm rt n0 z0 T' h' kk' nn' → P' r h' → h.size ≤ h'.size → OF p e below n1 z1 EN Q T' (mkF m pc' L (.long r :: S))) : OF p e below n1 z1 EN Q T (mkF m pc L st) :=
  o_callS W C w1 w2 w3 w4 hy hlen has hst hL hwt hfr hlo hcl hsl hk' hn' hd hp (fun v T' h' W' q z => by
    obtain ⟨r, rfl, q⟩ := q
    exact k1 r T' h' W' q z)
theorem o_callSA {index : Nat} {y : MethodName} {B' : ByteArray} {ml' wt : Nat} {rt' : Option FieldType} {rm : Room} {as : Array Value} {P' : Addr → Heap → Prop} {argsL : List Value} {st : List Value} (W : OW p l e R s m args below meth c Z B ml own nm rt n0 z0 T h kk nn)
    (C : OCon l Z y B' ml' rt' [] rm as h n0 (QA P')) (w1 : (Jvm.Cond.methodLink own index y).before a0 Z = true) (w2 : (Jvm.Cond.static y).before a0 Z = true) (w3 : (Jvm.Cond.initialized y.cls).before a0 Z = true) (w4 : (Jvm.Cond.code y B' ml' rt').before a0 Z = true)
    (hy : y.cls ≠ "java/lang/invoke/MethodHandle" ∧ y.cls ≠ "java/lang/invoke/VarHandle") (hlen : ∀ sig, parseMethodDescriptor y.desc = some sig → argsL.length = sig.parameters.length) (has : argsL.toArray = as) (hst : st = argsL.reverse ++ S) (hL : L.size = ml)
    (hwt : (S.map fun v => v.category).sum = wt) (hfr : rm.frames + 1 ≤ R.frames) (hlo : wt + (ml' + 11) + rm.locals ≤ R.locals) (hcl : kk + rm.cells ≤ R.cells) (hsl : nn + rm.slots ≤ R.slots) (hk' : kk + rm.cells = kk') (hn' : nn + rm.slots = nn')
    (hd : decode B pc = .ok (.invokestatic index, 3)) (hp : pc + 3 = pc')
    (k1 : ∀ r T' h', OW p l e R s m args below meth c Z B ml own nm rt n0 z0 T' h' kk' nn' → P' r h' → h.size ≤ h'.size → OF p e below n1 z1 EN Q T' (mkF m pc' L (.ref r :: S))) : OF p e below n1 z1 EN Q T (mkF m pc L st) :=
  o_callS W C w1 w2 w3 w4 hy hlen has hst hL hwt hfr hlo hcl hsl hk' hn' hd hp (fun v T' h' W' q z => by
    obtain ⟨r, rfl, q⟩ := q
    exact k1 r T' h' W' q z)
/-- an array of ints, bytes or chars at a, with these components -/
def OA (Z : State) (h : Heap) (a : Addr) (ty : FieldType) (xs : List Int32) : Prop := xs.length < 2 ^ 31 ∧ (∀ x ∈ xs, fits ty (.int x) = true) ∧ ∃ cl : Cell, Arr Z h a cl ty ∧ cl.slots = (xs.map Value.int).toArray
theorem OA.lt {a : Addr} {ty : FieldType} {xs : List Int32} (A : OA Z h a ty xs) : a < h.size := by obtain ⟨_, _, _, A, _⟩ := A; exact A.lt
theorem OA.ext {a : Addr} {ty : FieldType} {xs : List Int32} (A : OA Z h a ty xs) (E : Ext h h') : OA Z h' a ty xs := by obtain ⟨q1, q2, cl, A, q3⟩ := A; exact ⟨q1, q2, cl, A.ext E, q3⟩
theorem OA.keep {a : Addr} {ty : FieldType} {xs : List Int32} {ws : List Addr} (A : OA Z h a ty xs) (K : Keep h h' ws) (q : a ∉ ws) : OA Z h' a ty xs := by obtain ⟨q1, q2, cl, A, q3⟩ := A; exact ⟨q1, q2, cl, ⟨K.2.1 a cl A.1 q, A.2⟩, q3⟩
theorem OA.keep1 {a b : Addr} {ty : FieldType} {xs : List Int32} (A : OA Z h a ty xs) (K : Keep h h' [b]) (q : a ≠ b) : OA Z h' a ty xs := A.keep K (by simpa using q)
theorem OA.len {a : Addr} {ty : FieldType} {xs : List Int32} (A : OA Z h a ty xs) : xs.length < 2 ^ 31 := A.1
theorem o_tn (x : Int32) : x.toNatClampNeg = x.toInt.toNat := rfl
theorem o_nat {j : Int32} {i : Nat} (q : j.toInt = i) : j.toNatClampNeg = i := by rw [o_tn, q]; exact Int.toNat_natCast i
theorem o_in {j : Int32} {i : Nat} {xs : List Int32} {cl : Cell} (hi : j.toInt = i) (hs : cl.slots = (xs.map Value.int).toArray) (q : i < xs.length) : ¬ (j < 0 ∨ cl.slots.size ≤ j.toNatClampNeg) := by
  rw [o_nat hi, hs]; simp only [List.size_toArray, List.length_map, Int32.lt_iff_toInt_lt, hi, o_zero]; omega
theorem o_newarray {aty : ArrayType} {ty : FieldType} {v : Int32} {len cap : Nat} (W : OW p l e R s m args below meth c Z B ml own nm rt n0 z0 T h kk nn) (w : (Jvm.Cond.arrayClass ty).before a0 Z = true) (hty : newarray.typeOf aty = ty) (hdv : defaultValue ty = .int 0) (hft : fits ty (.int 0) = true) (hd : decode B pc = .ok (.newarray aty, 2)) (hp : pc + 2 = pc')
    (hv : v.toInt = len) (hlc : len ≤ cap) (hcap : cap * 8 ≤ 536870912) (hc : kk + 1 ≤ R.cells) (hl : nn + cap ≤ R.slots) (hk' : kk + 1 = kk') (hn' : nn + cap = nn')
    (k1 : ∀ T' h' a, OW p l e R s m args below meth c Z B ml own nm rt n0 z0 T' h' kk' nn' → Ext h h' → a = h.size → OA Z h' a ty (List.replicate len 0) → OF p e below n1 z1 EN Q T' (mkF m pc' L (.ref a :: S))) : OF p e below n1 z1 EN Q T (mkF m pc L (.int v :: S)) := by
  subst hp hk' hn' hty
  obtain ⟨cx, hz, hz', eT, locs, X, N⟩ := W
  obtain ⟨hx, hZ, hby, hml, hown, hnm, hr, hlk⟩ := cx
  obtain ⟨T', h', cA, X', e', E, A, st⟩ := newP X hx hZ w eT (g := mkF m pc L (.int v :: S)) rfl (hb hby hd) rfl (o_nlt (by rw [hv, o_zero]; omega)) (cap := cap) (by rw [o_nat hv]; exact hlc) hcap hc hl
  refine OF.step (fun t z => st t z) (k1 T' h' h.size ⟨⟨hx, hZ, hby, hml, hown, hnm, hr, hlk⟩, hz, Nat.le_trans hz' E.1, e', _, X', N⟩ E rfl ⟨by rw [List.length_replicate]; omega, fun x hx => by rw [List.mem_replicate] at hx; rw [hx.2]; exact hft, _, A, ?_⟩)
  simp [newA, hdv, o_nat hv]
theorem o_iaload {a : Addr} {xs : List Int32} {j v : Int32} {i : Nat} (W : OW p l e R s m args below meth c Z B ml own nm rt n0 z0 T h kk nn) (A : OA Z h a .int xs) (hd : decode B pc = .ok (.iaload, 1)) (hp : pc + 1 = pc') (hi : j.toInt = i) (hv : xs[i]? = some v)
    (k1 : OF p e below n1 z1 EN Q T (mkF m pc' L (.int v :: S))) : OF p e below n1 z1 EN Q T (mkF m pc L (.int j :: .ref a :: S)) := by
  subst hp
  obtain ⟨cx, hz, hz', eT, locs, X, N⟩ := W
  obtain ⟨hx, hZ, hby, hml, hown, hnm, hr, hlk⟩ := cx
  obtain ⟨q1, q2, cl, A, q3⟩ := A
  have hlt : i < xs.length := (List.getElem?_eq_some_iff.mp hv).1
  exact OF.step (fun t z => X.iaload hx (j := j) (v := .int v) (by rw [eT]; exact A.1) (State.isArrayOf_alike hZ.alike A.2.1) A.2.2 (o_in hi q3 hlt) (by rw [o_nat hi, q3]; simp [hv]) (g := mkF m pc L (.int j :: .ref a :: S)) rfl rfl (hb hby hd) t z) k1
theorem o_baload {a : Addr} {xs : List Int32} {j v : Int32} {i : Nat} (W : OW p l e R s m args below meth c Z B ml own nm rt n0 z0 T h kk nn) (A : OA Z h a .byte xs) (hd : decode B pc = .ok (.baload, 1)) (hp : pc + 1 = pc') (hi : j.toInt = i) (hv : xs[i]? = some v)
    (k1 : OF p e below n1 z1 EN Q T (mkF m pc' L (.int v :: S))) : OF p e below n1 z1 EN Q T (mkF m pc L (.int j :: .ref a :: S)) := by
  subst hp
  obtain ⟨cx, hz, hz', eT, locs, X, N⟩ := W
  obtain ⟨hx, hZ, hby, hml, hown, hnm, hr, hlk⟩ := cx
  obtain ⟨q1, q2, cl, A, q3⟩ := A
  have hlt : i < xs.length := (List.getElem?_eq_some_iff.mp hv).1
  exact OF.step (fun t z => X.baloadBytes hx (j := j) (v := .int v) (by rw [eT]; exact A.1) (State.isArrayOf_alike hZ.alike A.2.1) A.2.2 (o_in hi q3 hlt) (by rw [o_nat hi, q3]; simp [hv]) (g := mkF m pc L (.int j :: .ref a :: S)) rfl rfl (hb hby hd) t z) k1
theorem o_caload {a : Addr} {xs : List Int32} {j v : Int32} {i : Nat} (W : OW p l e R s m args below meth c Z B ml own nm rt n0 z0 T h kk nn) (A : OA Z h a .char xs) (hd : decode B pc = .ok (.caload, 1)) (hp : pc + 1 = pc') (hi : j.toInt = i) (hv : xs[i]? = some v)
    (k1 : OF p e below n1 z1 EN Q T (mkF m pc' L (.int v :: S))) : OF p e below n1 z1 EN Q T (mkF m pc L (.int j :: .ref a :: S)) := by
  subst hp
  obtain ⟨cx, hz, hz', eT, locs, X, N⟩ := W
  obtain ⟨hx, hZ, hby, hml, hown, hnm, hr, hlk⟩ := cx
  obtain ⟨q1, q2, cl, A, q3⟩ := A
  have hlt : i < xs.length := (List.getElem?_eq_some_iff.mp hv).1
  exact OF.step (fun t z => X.caload hx (j := j) (v := .int v) (by rw [eT]; exact A.1) (State.isArrayOf_alike hZ.alike A.2.1) A.2.2 (o_in hi q3 hlt) (by rw [o_nat hi, q3]; simp [hv]) (g := mkF m pc L (.int j :: .ref a :: S)) rfl rfl (hb hby hd) t z) k1
theorem o_iastore {a : Addr} {xs : List Int32} {j x : Int32} {i : Nat} (W : OW p l e R s m args below meth c Z B ml own nm rt n0 z0 T h kk nn) (A : OA Z h a .int xs) (ha : n0 ≤ a) (hd : decode B pc = .ok (.iastore, 1)) (hp : pc + 1 = pc') (hi : j.toInt = i) (hlt : i < xs.length)
    (k1 : ∀ T' h', OW p l e R s m args below meth c Z B ml own nm rt n0 z0 T' h' kk nn → Keep h h' [a] → OA Z h' a .int (xs.set i (x)) → OF p e below n1 z1 EN Q T' (mkF m pc' L S)) : OF p e below n1 z1 EN Q T (mkF m pc L (.int x :: .int j :: .ref a :: S)) := by
  subst hp
  obtain ⟨cx, hz, hz', eT, locs, X, N⟩ := W
  obtain ⟨hx, hZ, hby, hml, hown, hnm, hr, hlk⟩ := cx
  obtain ⟨q1, q2, cl, A, q3⟩ := A
  obtain ⟨T', h', X', e', Wr', st⟩ := stI X hx hZ eT A (j := j) (x := x) (o_in hi q3 hlt) (g := mkF m pc L (.int x :: .int j :: .ref a :: S)) rfl rfl (hb hby hd)
  have Wr' : Wr h h' a j.toNatClampNeg (.int (x)) := Wr'
  refine OF.step (fun t z => st t z) (k1 T' h' ⟨⟨hx, hZ, hby, hml, hown, hnm, hr, hlk⟩, hz, Nat.le_trans hz' (Nat.le_of_eq Wr'.size.symm), e', _, X', Fr.snoc X' N ha⟩ (Keep.of_wr Wr') ⟨by rw [List.length_set]; exact q1, fun y hy => ?_, _, A.same Wr', ?_⟩)
  · rcases List.mem_or_eq_of_mem_set hy with hy | rfl
    · exact q2 y hy
    · exact rfl
  · rw [o_nat hi]; simp [Cell.setSlot, q3, List.map_set]; try rfl
theorem o_bastore {a : Addr} {xs : List Int32} {j x : Int32} {i : Nat} (W : OW p l e R s m args below meth c Z B ml own nm rt n0 z0 T h kk nn) (A : OA Z h a .byte xs) (ha : n0 ≤ a) (hd : decode B pc = .ok (.bastore, 1)) (hp : pc + 1 = pc') (hi : j.toInt = i) (hlt : i < xs.length)
    (k1 : ∀ T' h', OW p l e R s m args below meth c Z B ml own nm rt n0 z0 T' h' kk nn → Keep h h' [a] → OA Z h' a .byte (xs.set i (x.toInt8.toInt32)) → OF p e below n1 z1 EN Q T' (mkF m pc' L S)) : OF p e below n1 z1 EN Q T (mkF m pc L (.int x :: .int j :: .ref a :: S)) := by
  subst hp
  obtain ⟨cx, hz, hz', eT, locs, X, N⟩ := W
  obtain ⟨hx, hZ, hby, hml, hown, hnm, hr, hlk⟩ := cx
  obtain ⟨q1, q2, cl, A, q3⟩ := A
  obtain ⟨T', h', X', e', Wr', st⟩ := stB X hx hZ eT A (j := j) (x := x) (o_in hi q3 hlt) (g := mkF m pc L (.int x :: .int j :: .ref a :: S)) rfl rfl (hb hby hd)
  have Wr' : Wr h h' a j.toNatClampNeg (.int (x.toInt8.toInt32)) := Wr'
  refine OF.step (fun t z => st t z) (k1 T' h' ⟨⟨hx, hZ, hby, hml, hown, hnm, hr, hlk⟩, hz, Nat.le_trans hz' (Nat.le_of_eq Wr'.size.symm), e', _, X', Fr.snoc X' N ha⟩ (Keep.of_wr Wr') ⟨by rw [List.length_set]; exact q1, fun y hy => ?_, _, A.same Wr', ?_⟩)
  · rcases List.mem_or_eq_of_mem_set hy with hy | rfl
    · exact q2 y hy
    · exact fits_nar_byte x
  · rw [o_nat hi]; simp [Cell.setSlot, q3, List.map_set]; try rfl
theorem o_castore {a : Addr} {xs : List Int32} {j x : Int32} {i : Nat} (W : OW p l e R s m args below meth c Z B ml own nm rt n0 z0 T h kk nn) (A : OA Z h a .char xs) (ha : n0 ≤ a) (hd : decode B pc = .ok (.castore, 1)) (hp : pc + 1 = pc') (hi : j.toInt = i) (hlt : i < xs.length)
    (k1 : ∀ T' h', OW p l e R s m args below meth c Z B ml own nm rt n0 z0 T' h' kk nn → Keep h h' [a] → OA Z h' a .char (xs.set i (x.toUInt32.toUInt16.toUInt32.toInt32)) → OF p e below n1 z1 EN Q T' (mkF m pc' L S)) : OF p e below n1 z1 EN Q T (mkF m pc L (.int x :: .int j :: .ref a :: S)) := by
  subst hp
  obtain ⟨cx, hz, hz', eT, locs, X, N⟩ := W
  obtain ⟨hx, hZ, hby, hml, hown, hnm, hr, hlk⟩ := cx
  obtain ⟨q1, q2, cl, A, q3⟩ := A
  obtain ⟨T', h', X', e', Wr', st⟩ := stC X hx hZ eT A (j := j) (x := x) (o_in hi q3 hlt) (g := mkF m pc L (.int x :: .int j :: .ref a :: S)) rfl rfl (hb hby hd)
  have Wr' : Wr h h' a j.toNatClampNeg (.int (x.toUInt32.toUInt16.toUInt32.toInt32)) := Wr'
  refine OF.step (fun t z => st t z) (k1 T' h' ⟨⟨hx, hZ, hby, hml, hown, hnm, hr, hlk⟩, hz, Nat.le_trans hz' (Nat.le_of_eq Wr'.size.symm), e', _, X', Fr.snoc X' N ha⟩ (Keep.of_wr Wr') ⟨by rw [List.length_set]; exact q1, fun y hy => ?_, _, A.same Wr', ?_⟩)
  · rcases List.mem_or_eq_of_mem_set hy with hy | rfl
    · exact q2 y hy
    · exact fits_nar_char x
  · rw [o_nat hi]; simp [Cell.setSlot, q3, List.map_set]; try rfl
theorem o_arraylength {a : Addr} {ty : FieldType} {xs : List Int32} (W : OW p l e R s m args below meth c Z B ml own nm rt n0 z0 T h kk nn) (A : OA Z h a ty xs) (hd : decode B pc = .ok (.arraylength, 1)) (hp : pc + 1 = pc')
    (k1 : ∀ v : Int32, v.toInt = xs.length → OF p e below n1 z1 EN Q T (mkF m pc' L (.int v :: S))) : OF p e below n1 z1 EN Q T (mkF m pc L (.ref a :: S)) := by
  subst hp
  obtain ⟨cx, hz, hz', eT, locs, X, N⟩ := W
  obtain ⟨hx, hZ, hby, hml, hown, hnm, hr, hlk⟩ := cx
  obtain ⟨q1, q2, cl, A, q3⟩ := A
  have hs : cl.slots.size = xs.length := by rw [q3]; simp
  exact OF.step (fun t z => X.arraylength hx (by rw [eT]; exact A.1) (State.isArrayOf_alike hZ.alike A.2.1) (g := mkF m pc L (.ref a :: S)) rfl rfl (hb hby hd) t z) (k1 cl.slots.size.toInt32 (by rw [hs]; exact len_toInt q1))
theorem OF.join {α : Type} (Jn : α → Prop) (Tf : α → State) (fr : α → JFrame) {f : JFrame} (k1 : ∀ v, Jn v → OF p e below n1 z1 EN Q (Tf v) (fr v)) (k2 : (∀ v, Jn v → OF p e below n1 z1 EN Q (Tf v) (fr v)) → OF p e below n1 z1 EN Q T f) : OF p e below n1 z1 EN Q T f := k2 k1
theorem OF.loop {α : Type} (mu : α → Nat) (Jn : α → Prop) (Tf : α → State) (fr : α → JFrame) (k1 : ∀ v, Jn v → (∀ v', Jn v' → mu v' < mu v → OF p e below n1 z1 EN Q (Tf v') (fr v')) → OF p e below n1 z1 EN Q (Tf v) (fr v)) (v0 : α) (hv0 : Jn v0) : OF p e below n1 z1 EN Q (Tf v0) (fr v0) := by
  have key : ∀ n v, mu v < n → Jn v → OF p e below n1 z1 EN Q (Tf v) (fr v) := by
    intro n
    induction n with
    | zero => intro v hn; omega
    | succ n ih => intro v hn hv; exact k1 v hv (fun v' hv' hlt => ih v' (by omega) hv')
  exact key _ v0 (Nat.lt_succ_self _) hv0
theorem o_new {index n : Nat} {C : String} (W : OW p l e R s m args below meth c Z B ml own nm rt n0 z0 T h kk nn) (w : (Jvm.Cond.classLink own index C).before a0 Z = true) (wi : (Jvm.Cond.instantiable C n).before a0 Z = true) (wz : (Jvm.Cond.initialized C).before a0 Z = true) (hd : decode B pc = .ok (.new index, 3)) (hp : pc + 3 = pc')
    (hc : kk + 1 ≤ R.cells) (hl : nn + n ≤ R.slots) (hk' : kk + 1 = kk') (hn' : nn + n = nn')
    (k1 : ∀ T' h' a, OW p l e R s m args below meth c Z B ml own nm rt n0 z0 T' h' kk' nn' → Ext h h' → a = h.size → Exa Z h' a C → (∀ {O nm d : String} {ty : FieldType}, Laid Z a0 C O nm d → parseFieldDescriptor d = some ty → Fld Z h' a O nm d (defaultValue ty)) → OF p e below n1 z1 EN Q T' (mkF m pc' L (.ref a :: S))) : OF p e below n1 z1 EN Q T (mkF m pc L S) := by
  subst hp hk' hn'
  obtain ⟨cx, hz, hz', eT, locs, X, N⟩ := W
  obtain ⟨hx, hZ, hby, hml, hown, hnm, hr, hlk⟩ := cx
  obtain ⟨T', h', X', e', E, A, D, -, st⟩ := newO X hx hZ hown w wi wz eT (g := mkF m pc L S) rfl (hb hby hd) hc hl
  exact OF.step (fun t z => st t z) (k1 T' h' h.size ⟨⟨hx, hZ, hby, hml, hown, hnm, hr, hlk⟩, hz, Nat.le_trans hz' E.1, e', _, X', N⟩ E rfl A D)
theorem o_getF {index : Nat} {O f d : String} {a : Addr} {v : Value} (W : OW p l e R s m args below meth c Z B ml own nm rt n0 z0 T h kk nn) (w : (Jvm.Cond.fieldLink own index O f d).before a0 Z = true) (Fl : Fld Z h a O f d v) (hd : decode B pc = .ok (.getfield index, 3)) (hp : pc + 3 = pc')
    (k1 : ∀ T', OW p l e R s m args below meth c Z B ml own nm rt n0 z0 T' h kk nn → OF p e below n1 z1 EN Q T' (mkF m pc' L (v :: S))) : OF p e below n1 z1 EN Q T (mkF m pc L (.ref a :: S)) := by
  subst hp
  obtain ⟨cx, hz, hz', eT, locs, X, N⟩ := W
  obtain ⟨hx, hZ, hby, hml, hown, hnm, hr, hlk⟩ := cx
  obtain ⟨T', X', e', st⟩ := getF X hx hZ hown (host := "") (Or.inl w) Via.refl eT Fl (g := mkF m pc L (.ref a :: S)) rfl rfl (hb hby hd)
  exact OF.step (fun t z => st t z) (k1 T' ⟨⟨hx, hZ, hby, hml, hown, hnm, hr, hlk⟩, hz, hz', e', _, X', N⟩)
theorem o_putF {index kz : Nat} {O f d C : String} {a : Addr} {v v' old : Value} {ty : FieldType} (W : OW p l e R s m args below meth c Z B ml own nm rt n0 z0 T h kk nn) (w : (Jvm.Cond.fieldLink own index O f d).before a0 Z = true) (Fl : Fld Z h a O f d old) (E : Exa Z h a C) (Ly : (Jvm.Cond.lays C O f d).before a0 Z = true ∨ ((Jvm.Cond.laysFinal C O f d).before a0 Z = true ∧ own = O ∧ nm = "<init>")) (wi : (Jvm.Cond.instantiable C kz).before a0 Z = true)
    (hty : parseFieldDescriptor d = some ty) (hnw : narrow ty v = v') (hf : fits ty v' = true) (ha : n0 ≤ a) (hd : decode B pc = .ok (.putfield index, 3)) (hp : pc + 3 = pc')
    (k1 : ∀ T' h', OW p l e R s m args below meth c Z B ml own nm rt n0 z0 T' h' kk nn → Wr h h' a (Jvm.RoadKit.slotOf Z O f d) v' → OF p e below n1 z1 EN Q T' (mkF m pc' L S)) : OF p e below n1 z1 EN Q T (mkF m pc L (v :: .ref a :: S)) := by
  subst hp
  obtain ⟨cx, hz, hz', eT, locs, X, N⟩ := W
  obtain ⟨hx, hZ, hby, hml, hown, hnm, hr, hlk⟩ := cx
  obtain ⟨T', h', X', e', Wr', st⟩ := putFN X hx hZ hown w Via.refl eT Fl E (Ly.imp id (fun q => ⟨q.1, q.2.1, hnm.trans q.2.2⟩)) wi hty hnw hf (g := mkF m pc L (v :: .ref a :: S)) rfl rfl (hb hby hd)
  exact OF.step (fun t z => st t z) (k1 T' h' ⟨⟨hx, hZ, hby, hml, hown, hnm, hr, hlk⟩, hz, Nat.le_trans hz' (Nat.le_of_eq Wr'.size.symm), e', _, X', Fr.snoc X' N ha⟩ Wr')
theorem o_initO {index wt : Nat} {a : Addr} (W : OW p l e R s m args below meth c Z B ml own nm rt n0 z0 T h kk nn) (w1 : (Jvm.Cond.methodLink own index Lib.objectInit).before a0 Z = true) (w2 : (Jvm.Cond.instanceMethod Lib.objectInit).before a0 Z = true) (w3 : (Jvm.Cond.code Lib.objectInit ⟨#[0xb1]⟩ 1 none).before a0 Z = true)
    (hL : L.size = ml) (hwt : (S.map fun v => v.category).sum = wt) (hfr : 1 ≤ R.frames) (hlo : wt + 12 ≤ R.locals) (hd : decode B pc = .ok (.invokespecial index, 3)) (hp : pc + 3 = pc')
    (k1 : ∀ T', OW p l e R s m args below meth c Z B ml own nm rt n0 z0 T' h kk nn → OF p e below n1 z1 EN Q T' (mkF m pc' L S)) : OF p e below n1 z1 EN Q T (mkF m pc L (.ref a :: S)) := by
  subst hp
  obtain ⟨cx, hz, hz', eT, locs, X, N⟩ := W
  obtain ⟨hx, hZ, hby, hml, hown, hnm, hr, hlk⟩ := cx
  obtain ⟨T', X', e', st⟩ := initO X hx hZ hown w1 w2 w3 eT (g := mkF m pc L (.ref a :: S)) rfl (hL.trans hml.symm) rfl (hb hby hd) hfr (W := wt) (by show 2 * 0 + _ ≤ _; rw [hwt]; omega) hlo
  exact OF.step (fun t z => st t z) (k1 T' ⟨⟨hx, hZ, hby, hml, hown, hnm, hr, hlk⟩, hz, hz', e', _, X', N⟩)
theorem o_callC {index : Nat} {y : MethodName} {B' : ByteArray} {ml' wt : Nat} {rm : Room} {as : Array Value} {P' : Heap → Prop} {a : Addr} {argsL : List Value} {st : List Value} (W : OW p l e R s m args below meth c Z B ml own nm rt n0 z0 T h kk nn)
    (C : OCon l Z y B' ml' none [] rm as h n0 (QV P')) (hy1 : y.name = "<init>") (w1 : (Jvm.Cond.methodLink own index y).before a0 Z = true) (w2 : (Jvm.Cond.instanceMethod y).before a0 Z = true) (w3 : (Jvm.Cond.initialized y.cls).before a0 Z = true) (w4 : (Jvm.Cond.code y B' ml' none).before a0 Z = true)
    (hy : y.cls ≠ "java/lang/invoke/MethodHandle" ∧ y.cls ≠ "java/lang/invoke/VarHandle") (hlen : ∀ sig, parseMethodDescriptor y.desc = some sig → argsL.length = sig.parameters.length) (has : (.ref a :: argsL).toArray = as) (hst : st = argsL.reverse ++ .ref a :: S) (hL : L.size = ml)
    (hwt : (S.map fun v => v.category).sum = wt) (hfr : rm.frames + 1 ≤ R.frames) (hlo : wt + (ml' + 11) + rm.locals ≤ R.locals) (hcl : kk + rm.cells ≤ R.cells) (hsl : nn + rm.slots ≤ R.slots) (hk' : kk + rm.cells = kk') (hn' : nn + rm.slots = nn')
    (hd : decode B pc = .ok (.invokespecial index, 3)) (hp : pc + 3 = pc')
    (k1 : ∀ T' h', OW p l e R s m args below meth c Z B ml own nm rt n0 z0 T' h' kk' nn' → P' h' → h.size ≤ h'.size → OF p e below n1 z1 EN Q T' (mkF m pc' L S)) : OF p e below n1 z1 EN Q T (mkF m pc L st) := by
  subst hp has hk' hn' hst
  obtain ⟨cx, hz, hz', eT, locs, X, N⟩ := W
  obtain ⟨hx, hZ, hby, hml, hown, hnm, hr, hlk⟩ := cx
  obtain ⟨v, _, ⟨T', L2, k2, n2⟩, -, X2, ⟨Lc, hQ, l2, y2, z2⟩, st2⟩ := X.specialBack hx (y := y) hy1 hown (mvT hZ w1) (mvT hZ w2) (mvT hZ w4) hy (backOf (W := wt) (Q := OQ (QV P') h.size n0) C hZ w4 w3 hfr hlo) (g := mkF m pc L (argsL.reverse ++ .ref a :: S)) rfl (hL.trans hml.symm) (Steps.refl _) (a := a) (argsL := argsL) (rest := S) hlen rfl
    (by show 2 * 0 + _ ≤ _; rw [hwt]; omega) (hb hby hd) (fun _ _ => ⟨rfl, eT, hcl, hsl⟩)
  dsimp only [Pt.U, Pt.locs, Pt.cells, Pt.slots] at X2 l2 y2 z2 st2 hQ
  subst l2 y2 z2
  obtain ⟨⟨rfl, q1⟩, q2, q3⟩ := hQ
  exact OF.step (fun t z => st2.trans z) (k1 T' T'.heap ⟨⟨hx, hZ, hby, hml, hown, hnm, hr, hlk⟩, hz, Nat.le_trans hz' q2, rfl, _, X2, Fr.app N q3⟩ q1 q2)
theorem o_callV {index : Nat} {y z : MethodName} {K : String} {B' : ByteArray} {ml' wt : Nat} {rt' : Option FieldType} {rm : Room} {as : Array Value} {Q' : Option Value → Heap → Prop} {a : Addr} {argsL : List Value} {st : List Value} (W : OW p l e R s m args below meth c Z B ml own nm rt n0 z0 T h kk nn)
    (E : Exa Z h a K) (C : OCon l Z z B' ml' rt' [] rm as h n0 Q') (w1 : (Jvm.Cond.methodLink own index y).before a0 Z = true) (w2 : (Jvm.Cond.declares y).before a0 Z = true) (w5 : NotFace s y) (w6 : (Jvm.Cond.selects K y z).before a0 Z = true) (w7 : (Jvm.Cond.instanceMethod z).before a0 Z = true) (w3 : (Jvm.Cond.initialized z.cls).before a0 Z = true) (w4 : (Jvm.Cond.code z B' ml' rt').before a0 Z = true)
    (hy : y.cls ≠ "java/lang/invoke/MethodHandle" ∧ y.cls ≠ "java/lang/invoke/VarHandle") (hlen : ∀ sig, parseMethodDescriptor y.desc = some sig → argsL.length = sig.parameters.length) (has : (.ref a :: argsL).toArray = as) (hst : st = argsL.reverse ++ .ref a :: S) (hL : L.size = ml)
    (hwt : (S.map fun v => v.category).sum = wt) (hfr : rm.frames + 1 ≤ R.frames) (hlo : wt + (ml' + 11) + rm.locals ≤ R.locals) (hcl : kk + rm.cells ≤ R.cells) (hsl : nn + rm.slots ≤ R.slots) (hk' : kk + rm.cells = kk') (hn' : nn + rm.slots = nn')
    (hd : decode B pc = .ok (.invokevirtual index, 3)) (hp : pc + 3 = pc')
    (k1 : ∀ v T' h', OW p l e R s m args below meth c Z B ml own nm rt n0 z0 T' h' kk' nn' → Q' v h' → h.size ≤ h'.size → OF p e below n1 z1 EN Q T' (mkF m pc' L (v.toList ++ S))) : OF p e below n1 z1 EN Q T (mkF m pc L st) := by
  subst hp has hk' hn' hst
  obtain ⟨cx, hz, hz', eT, locs, X, N⟩ := W
  obtain ⟨hx, hZ, hby, hml, hown, hnm, hr, hlk⟩ := cx
  obtain ⟨cq, kq, qa, qb, qc⟩ := isOf hZ eT E
  obtain ⟨v, _, ⟨T', L2, k2, n2⟩, -, X2, ⟨Lc, hQ, l2, y2, z2⟩, st2⟩ := X.virtualBack hx (y := y) (z := z) hown (mvT hZ w1) (mvT hZ w2) w5 (mvT hZ w6) (mvT hZ w7) hy (backOf (W := wt) (Q := OQ Q' h.size n0) C hZ w4 w3 hfr hlo) qa qc (g := mkF m pc L (argsL.reverse ++ .ref a :: S)) rfl (hL.trans hml.symm) (Steps.refl _) (argsL := argsL) (rest := S) hlen rfl
    (by show 2 * 0 + _ ≤ _; rw [hwt]; omega) (hb hby hd) (fun _ _ => ⟨rfl, eT, hcl, hsl⟩)
  dsimp only [Pt.U, Pt.locs, Pt.cells, Pt.slots] at X2 l2 y2 z2 st2 hQ
  subst l2 y2 z2
  obtain ⟨q1, q2, q3⟩ := hQ
  exact OF.step (fun t z => st2.trans z) (k1 v T' T'.heap ⟨⟨hx, hZ, hby, hml, hown, hnm, hr, hlk⟩, hz, Nat.le_trans hz' q2, rfl, _, X2, Fr.app N q3⟩ q1 q2)
end OwnKit
theorem ow {a0 : Array Value} {Z : State} (hw : ∀ d ∈ tables_1, d.before a0 Z = true) (k : Nat) {d : Jvm.Cond} (h : tables_1[k]? = some d) : d.before a0 Z = true := hw _ (List.mem_of_getElem? h)
theorem own_rng (x : Int32) : -2147483648 ≤ x.toInt ∧ x.toInt < 2147483648 := ⟨x.le_toInt, x.toInt_lt⟩
theorem own_lrng (x : Int64) : -9223372036854775808 ≤ x.toInt ∧ x.toInt < 9223372036854775808 := ⟨x.le_toInt, x.toInt_lt⟩
theorem own_rem (x y : Int32) : (x - (x / y) * y).toInt = x.toInt.tmod y.toInt := by
  have a := (x % y).toInt_lt; have b := (x % y).le_toInt
  rw [Int32.toInt_mod] at a b
  rw [Int32.toInt_sub, Int32.toInt_mul, Int32.toInt_div, Int.bmod_mul_bmod, Int.sub_bmod_bmod, Int.mul_comm, ← Int.tmod_def]
  exact Jvm.Kit.bmod32 b a
theorem own_remp {x y : Int32} (hx : 0 ≤ x.toInt) : (x - (x / y) * y).toInt = x.toInt % y.toInt := by rw [own_rem, Int.tmod_eq_emod_of_nonneg hx]
theorem own_char (x : Int32) : 0 ≤ (x.toUInt32.toUInt16.toUInt32.toInt32).toInt ∧ (x.toUInt32.toUInt16.toUInt32.toInt32).toInt ≤ 65535 := by
  have q := fits_nar_char x
  simp only [fits, nar, Bool.and_eq_true, decide_eq_true_eq, Int32.le_iff_toInt_le] at q
  exact q
theorem own_ix {x y : Int32} {n : Nat} (hx : 0 ≤ x.toInt) (hy : y.toInt = n) (hn : 0 < n) : ∃ i : Nat, (x - x / y * y).toInt = i ∧ i < n := by
  have h := own_remp (y := y) hx
  rw [hy] at h
  have h1 := Int.emod_nonneg x.toInt (b := (n : Int)) (by omega)
  have h2 := Int.emod_lt_of_pos x.toInt (b := (n : Int)) (by omega)
  exact ⟨(x.toInt % n).toNat, by omega, by omega⟩
theorem own_nz {v : Int32} {n : Nat} (h : v.toInt = n) (hn : 0 < n) : v ≠ 0 := fun e => by
  rw [e] at h; have c0 : (0 : Int32).toInt = 0 := rfl; omega
theorem own_and31 (x : Int32) : 0 ≤ (x &&& 2147483647).toInt := by
  have h1 : (x &&& 2147483647).toInt = x.toInt % 2147483648 := Jvm.Kit.i32_mask x 2147483647 (k := 31) (by decide) (by decide)
  omega
theorem own_ushr (x : Int32) {n : UInt32} {k : Nat} (hn : n.toNat = k) (h0 : 0 < k) (hk : k < 32) : ((x.toUInt32 >>> n).toInt32).toInt = ((x.toUInt32.toNat / 2 ^ k : Nat) : Int) := by
  have e : ((x.toUInt32 >>> n).toInt32).toInt = ((x.toUInt32 >>> n).toBitVec).toInt := rfl
  have q : (x.toUInt32 >>> n).toBitVec.toNat = x.toUInt32.toNat / 2 ^ k := by
    show (x.toUInt32 >>> n).toNat = _
    rw [UInt32.toNat_shiftRight, hn, Nat.mod_eq_of_lt hk, Nat.shiftRight_eq_div_pow]
  have lt := x.toUInt32.toNat_lt
  have p1 : 2 ^ 1 ≤ 2 ^ k := Nat.pow_le_pow_right (by decide) h0
  have p2 : x.toUInt32.toNat / 2 ^ k ≤ x.toUInt32.toNat / 2 ^ 1 := Nat.div_le_div_left p1 (by decide)
  rw [e, BitVec.toInt_eq_toNat_cond, q, if_pos (by omega)]
theorem own_ushr1 (x : Int32) : 0 ≤ ((x.toUInt32 >>> ((1 : Int32) &&& 31).toUInt32).toInt32).toInt := by
  rw [own_ushr x (k := 1) (by decide) (by decide) (by decide)]; omega
theorem own_nn {v : Int32} (h : 0 ≤ v.toInt) : v.toBitVec.toNat = v.toInt.toNat := by
  have q : v.toInt = v.toBitVec.toInt := rfl
  rw [BitVec.toInt_eq_toNat_cond] at q
  have := v.toBitVec.isLt
  split at q <;> omega
theorem own_lnn {v : Int64} (h : 0 ≤ v.toInt) : v.toBitVec.toNat = v.toInt.toNat := by
  have q : v.toInt = v.toBitVec.toInt := rfl
  rw [BitVec.toInt_eq_toNat_cond] at q
  have := v.toBitVec.isLt
  split at q <;> omega
theorem own_nzi {x : Int32} (h : ¬ x.toInt = 0) : x ≠ 0 := fun e => h (by rw [e]; rfl)
theorem own_and3 (x : Int32) : x &&& 3 = 0 ∨ x &&& 3 = 1 ∨ x &&& 3 = 2 ∨ x &&& 3 = 3 := by
  have h : (x &&& 3).toInt = x.toInt % 4 := Jvm.Kit.i32_mask x 3 (k := 2) (by decide) (by decide)
  have c0 : (0 : Int32).toInt = 0 := rfl
  have c1 : (1 : Int32).toInt = 1 := rfl
  have c2 : (2 : Int32).toInt = 2 := rfl
  have c3 : (3 : Int32).toInt = 3 := rfl
  have q : (x &&& 3).toInt = 0 ∨ (x &&& 3).toInt = 1 ∨ (x &&& 3).toInt = 2 ∨ (x &&& 3).toInt = 3 := by omega
  rcases q with q | q | q | q
  · exact Or.inl (o_eq (by omega))
  · exact Or.inr (Or.inl (o_eq (by omega)))
  · exact Or.inr (Or.inr (Or.inl (o_eq (by omega))))
  · exact Or.inr (Or.inr (Or.inr (o_eq (by omega))))
theorem own_lim (x : Int32) : ((x &&& 255) + 1).toInt = x.toInt % 256 + 1 := by
  have h : (x &&& 255).toInt = x.toInt % 256 := Jvm.Kit.i32_mask x 255 (k := 8) (by decide) (by decide)
  have c1 : (1 : Int32).toInt = 1 := rfl
  rw [Jvm.Kit.i32_add (by omega) (by omega)]; omega
theorem own_dig (x l : Int32) (hl : 0 < l.toInt) : 0 ≤ (((x.toUInt32 >>> ((8 : Int32) &&& 31).toUInt32).toInt32) - ((x.toUInt32 >>> ((8 : Int32) &&& 31).toUInt32).toInt32) / l * l).toInt ∧ (((x.toUInt32 >>> ((8 : Int32) &&& 31).toUInt32).toInt32) - ((x.toUInt32 >>> ((8 : Int32) &&& 31).toUInt32).toInt32) / l * l).toInt < l.toInt := by
  have h0 : 0 ≤ ((x.toUInt32 >>> ((8 : Int32) &&& 31).toUInt32).toInt32).toInt := by
    rw [own_ushr x (k := 8) (by decide) (by decide) (by decide)]; omega
  rw [own_remp h0]
  exact ⟨Int.emod_nonneg _ (by omega), Int.emod_lt_of_pos _ hl⟩
theorem own_mul {a b A B : Int} (ha : 0 ≤ a) (hA : a ≤ A) (hb : 0 ≤ b) (hB : b ≤ B) : 0 ≤ a * b ∧ a * b ≤ A * B :=
  ⟨Int.mul_nonneg ha hb, Int.mul_le_mul hA hB hb (by omega)⟩
theorem own_rk2 (a b l1 : Int32) (ha : 0 ≤ a.toInt ∧ a.toInt ≤ 256) (hb : 0 ≤ b.toInt ∧ b.toInt ≤ 256) (h1 : 0 ≤ l1.toInt ∧ l1.toInt ≤ 256) :
    (a.toInt64 * l1.toInt64 + b.toInt64).toInt = a.toInt * l1.toInt + b.toInt ∧ 0 ≤ a.toInt * l1.toInt + b.toInt ∧ a.toInt * l1.toInt + b.toInt ≤ 65792 := by
  obtain ⟨m1, m2⟩ := own_mul ha.1 ha.2 h1.1 h1.2
  have ea := Jvm.Kit.i64_of_i32 a; have eb := Jvm.Kit.i64_of_i32 b; have el := Jvm.Kit.i64_of_i32 l1
  have e1 : (a.toInt64 * l1.toInt64).toInt = a.toInt * l1.toInt := by
    rw [Jvm.Kit.i64_mul (by rw [ea, el]; omega) (by rw [ea, el]; omega), ea, el]
  refine ⟨?_, by omega, by omega⟩
  rw [Jvm.Kit.i64_add (by rw [e1, eb]; omega) (by rw [e1, eb]; omega), e1, eb]
theorem own_rk3 (a b d l1 l2 : Int32) (ha : 0 ≤ a.toInt ∧ a.toInt ≤ 256) (hb : 0 ≤ b.toInt ∧ b.toInt ≤ 256) (hd : 0 ≤ d.toInt ∧ d.toInt ≤ 256) (h1 : 0 ≤ l1.toInt ∧ l1.toInt ≤ 256) (h2 : 0 ≤ l2.toInt ∧ l2.toInt ≤ 256) :
    ((a.toInt64 * l1.toInt64 + b.toInt64) * l2.toInt64 + d.toInt64).toInt = (a.toInt * l1.toInt + b.toInt) * l2.toInt + d.toInt ∧ 0 ≤ (a.toInt * l1.toInt + b.toInt) * l2.toInt + d.toInt ∧ (a.toInt * l1.toInt + b.toInt) * l2.toInt + d.toInt ≤ 16843008 := by
  obtain ⟨e1, n1, n2⟩ := own_rk2 a b l1 ha hb h1
  obtain ⟨m1, m2⟩ := own_mul n1 n2 h2.1 h2.2
  have ed := Jvm.Kit.i64_of_i32 d; have el := Jvm.Kit.i64_of_i32 l2
  have e2 : ((a.toInt64 * l1.toInt64 + b.toInt64) * l2.toInt64).toInt = (a.toInt * l1.toInt + b.toInt) * l2.toInt := by
    rw [Jvm.Kit.i64_mul (by rw [e1, el]; omega) (by rw [e1, el]; omega), e1, el]
  refine ⟨?_, by omega, by omega⟩
  rw [Jvm.Kit.i64_add (by rw [e2, ed]; omega) (by rw [e2, ed]; omega), e2, ed]
theorem own_t1 (a : Int32) : ((1 : Int64) * a.toInt64).toInt = a.toInt := by
  have r := own_rng a; have ea := Jvm.Kit.i64_of_i32 a; have c1 : (1 : Int64).toInt = 1 := rfl
  rw [Jvm.Kit.i64_mul (by rw [ea, c1]; omega) (by rw [ea, c1]; omega), ea, c1]; omega
theorem own_t2 (a b : Int32) (ha : 0 ≤ a.toInt ∧ a.toInt ≤ 256) (hb : 0 ≤ b.toInt ∧ b.toInt ≤ 256) : ((1 : Int64) * a.toInt64 * b.toInt64).toInt = a.toInt * b.toInt ∧ 0 ≤ a.toInt * b.toInt ∧ a.toInt * b.toInt ≤ 65536 := by
  obtain ⟨m1, m2⟩ := own_mul ha.1 ha.2 hb.1 hb.2
  have e1 := own_t1 a; have eb := Jvm.Kit.i64_of_i32 b
  exact ⟨by rw [Jvm.Kit.i64_mul (by rw [e1, eb]; omega) (by rw [e1, eb]; omega), e1, eb], by omega, by omega⟩
theorem own_t3 (a b d : Int32) (ha : 0 ≤ a.toInt ∧ a.toInt ≤ 256) (hb : 0 ≤ b.toInt ∧ b.toInt ≤ 256) (hd : 0 ≤ d.toInt ∧ d.toInt ≤ 256) : ((1 : Int64) * a.toInt64 * b.toInt64 * d.toInt64).toInt = a.toInt * b.toInt * d.toInt := by
  obtain ⟨e1, n1, n2⟩ := own_t2 a b ha hb
  obtain ⟨m1, m2⟩ := own_mul n1 n2 hd.1 hd.2
  have ed := Jvm.Kit.i64_of_i32 d
  rw [Jvm.Kit.i64_mul (by rw [e1, ed]; omega) (by rw [e1, ed]; omega), e1, ed]
theorem own_mr {x t c l : Int} (h1 : x < t) (h2 : 0 ≤ c) (h3 : c < l) : x * l + c < t * l ∧ (x + 1) * l = x * l + l ∧ (x + 1) * l ≤ t * l := by
  have e : (x + 1) * l = x * l + l := by rw [Int.add_mul, Int.one_mul]
  have q : (x + 1) * l ≤ t * l := Int.mul_le_mul_of_nonneg_right (by omega) (by omega)
  omega
theorem own_n2 (c0 c1 l0 l1 : Int) (h0 : 0 ≤ c0 ∧ c0 < l0) (h1 : 0 ≤ c1 ∧ c1 < l1) :
    (c1 + 1 < l1 → c0 * l1 + c1 + 1 < l0 * l1 ∧ c0 * l1 + (c1 + 1) = c0 * l1 + c1 + 1) ∧
    (c1 + 1 = l1 → c0 + 1 < l0 → c0 * l1 + c1 + 1 < l0 * l1 ∧ (c0 + 1) * l1 + 0 = c0 * l1 + c1 + 1) ∧
    (c1 + 1 = l1 → c0 + 1 = l0 → c0 * l1 + c1 + 1 = l0 * l1) := by
  obtain ⟨a1, a2, a3⟩ := own_mr h0.2 h1.1 h1.2
  refine ⟨fun q => ⟨by omega, by omega⟩, fun q r => ?_, fun q r => ?_⟩
  · obtain ⟨b1, b2, b3⟩ := own_mr (x := c0 + 1) (t := l0) (c := 0) (l := l1) (by omega) (by omega) (by omega)
    constructor <;> omega
  · subst r; omega
theorem own_n3 (c0 c1 c2 l0 l1 l2 : Int) (h0 : 0 ≤ c0 ∧ c0 < l0) (h1 : 0 ≤ c1 ∧ c1 < l1) (h2 : 0 ≤ c2 ∧ c2 < l2) :
    (c2 + 1 < l2 → (c0 * l1 + c1) * l2 + c2 + 1 < l0 * l1 * l2 ∧ (c0 * l1 + c1) * l2 + (c2 + 1) = (c0 * l1 + c1) * l2 + c2 + 1) ∧
    (c2 + 1 = l2 → c1 + 1 < l1 → (c0 * l1 + c1) * l2 + c2 + 1 < l0 * l1 * l2 ∧ (c0 * l1 + (c1 + 1)) * l2 + 0 = (c0 * l1 + c1) * l2 + c2 + 1) ∧
    (c2 + 1 = l2 → c1 + 1 = l1 → c0 + 1 < l0 → (c0 * l1 + c1) * l2 + c2 + 1 < l0 * l1 * l2 ∧ ((c0 + 1) * l1 + 0) * l2 + 0 = (c0 * l1 + c1) * l2 + c2 + 1) ∧
    (c2 + 1 = l2 → c1 + 1 = l1 → c0 + 1 = l0 → (c0 * l1 + c1) * l2 + c2 + 1 = l0 * l1 * l2) := by
  obtain ⟨a1, a2, a3⟩ := own_mr h0.2 h1.1 h1.2
  obtain ⟨p1, p2, p3⟩ := own_n2 c0 c1 l0 l1 h0 h1
  obtain ⟨b1, b2, b3⟩ := own_mr (x := c0 * l1 + c1) (t := l0 * l1) a1 h2.1 h2.2
  refine ⟨fun q => ⟨by omega, by omega⟩, fun q r => ?_, fun q r u => ?_, fun q r u => ?_⟩
  · obtain ⟨s1, s2⟩ := p1 r
    obtain ⟨d1, d2, d3⟩ := own_mr (x := c0 * l1 + c1 + 1) (t := l0 * l1) (c := 0) (l := l2) s1 (by omega) (by omega)
    rw [s2]
    constructor <;> omega
  · obtain ⟨s1, s2⟩ := p2 r u
    obtain ⟨d1, d2, d3⟩ := own_mr (x := c0 * l1 + c1 + 1) (t := l0 * l1) (c := 0) (l := l2) s1 (by omega) (by omega)
    rw [s2]
    constructor <;> omega
  · have s1 := p3 r u
    rw [← s1]; omega
theorem own_pn0 : plainName "com/example/private_knowledge_graphs/privateknowledgegraphs/release/CombinationsNextPinLaw" = true := by first | (simp [plainName, overriddenIn]; done) | decide +kernel
theorem own_ef1_0 (m : MethodId) (z0 : Int32) (z1 : Addr) (z2 : Addr) : entryFrame m #[(.int z0), (.ref z1), (.ref z2)] 3 = mkF m 0 #[.val (.int z0), .val (.ref z1), .val (.ref z2)] [] := by first | (simp [entryFrame, mkF, argsToLocals, Value.category]; done) | rfl
theorem own_d1_0 : decode method_2_code 0 = .ok (.iload_n 0, 1) := by decide +kernel
theorem own_d1_1 : decode method_2_code 1 = .ok (.ifCond .ne 5, 3) := by decide +kernel
theorem own_d1_4 : decode method_2_code 4 = .ok (.lconst 0, 1) := by decide +kernel
theorem own_d1_5 : decode method_2_code 5 = .ok (.lreturn, 1) := by decide +kernel
set_option maxRecDepth 65536 in
set_option maxHeartbeats 4000000 in
theorem rm1_0 (l : Launch) (Z : State) (a0 : Array Value) (hw : ∀ d ∈ tables_1, d.before a0 Z = true) (b0 b1 : Addr) (h0 : Heap) (n0 : Nat) (Z0 : n0 ≤ h0.size) (A0 : OA Z h0 b0 .int []) (A1 : OA Z h0 b1 .int []) :
    OCon l Z (⟨"com/example/private_knowledge_graphs/privateknowledgegraphs/release/CombinationsNextPinLaw", "rank", "(I[I[I)J"⟩ : MethodName) method_2_code 3 (some .long) [] ({ frames := 0, cells := 0, slots := 0, locals := 0 } : Room) #[(.int (0 : Int32)), (.ref b0), (.ref b1)] h0 n0 (QJ fun r h' => r = (0 : Int64) ∧ h0 = h') := by
  refine OCon.mk (plainFor_of_name own_pn0) Z0 ?_
  intro p e s m below meth cd s₁ W0
  refine OF.cast (own_ef1_0 m (0 : Int32) b0 b1) ?_
  have c_0___Int32_ : (0 : Int32).toInt = 0 := rfl
  refine o_iloadN W0 own_d1_0 (v := (0 : Int32)) rfl (pc' := 1) rfl ?_
  refine o_if_ne W0 own_d1_1 (by decide) (pq := 6) (by decide) (pc' := 4) rfl (fun hc1 => ?_) (fun hc1 => ?_)
  · exact absurd hc1 (by decide)
  · refine o_lconst W0 (v := (0 : Int64)) own_d1_4 rfl (pc' := 5) rfl ?_
    refine o_retJ W0 rfl own_d1_5 (by decide) (by decide) ?_
    exact ⟨_, rfl, rfl, rfl⟩
theorem own_ef2_0 (m : MethodId) (z0 : Int32) (z1 : Addr) : entryFrame m #[(.int z0), (.ref z1)] 4 = mkF m 0 #[.val (.int z0), .val (.ref z1), .unset, .unset] [] := by first | (simp [entryFrame, mkF, argsToLocals, Value.category]; done) | rfl
theorem own_d2_0 : decode method_3_code 0 = .ok (.lconst 1, 1) := by decide +kernel
theorem own_d2_1 : decode method_3_code 1 = .ok (.lstore_n 2, 1) := by decide +kernel
theorem own_d2_2 : decode method_3_code 2 = .ok (.iload_n 0, 1) := by decide +kernel
theorem own_d2_3 : decode method_3_code 3 = .ok (.ifCond .le 10, 3) := by decide +kernel
theorem own_d2_13 : decode method_3_code 13 = .ok (.iload_n 0, 1) := by decide +kernel
theorem own_d2_14 : decode method_3_code 14 = .ok (.iconst 1, 1) := by decide +kernel
theorem own_d2_15 : decode method_3_code 15 = .ok (.if_icmp .le 10, 3) := by decide +kernel
theorem own_d2_25 : decode method_3_code 25 = .ok (.iload_n 0, 1) := by decide +kernel
theorem own_d2_26 : decode method_3_code 26 = .ok (.iconst 2, 1) := by decide +kernel
theorem own_d2_27 : decode method_3_code 27 = .ok (.if_icmp .le 10, 3) := by decide +kernel
theorem own_d2_37 : decode method_3_code 37 = .ok (.lload_n 2, 1) := by decide +kernel
theorem own_d2_38 : decode method_3_code 38 = .ok (.lreturn, 1) := by decide +kernel
set_option maxRecDepth 65536 in
set_option maxHeartbeats 4000000 in
theorem rm2_0 (l : Launch) (Z : State) (a0 : Array Value) (hw : ∀ d ∈ tables_1, d.before a0 Z = true) (b0 : Addr) (h0 : Heap) (n0 : Nat) (Z0 : n0 ≤ h0.size) (A0 : OA Z h0 b0 .int []) :
    OCon l Z (⟨"com/example/private_knowledge_graphs/privateknowledgegraphs/release/CombinationsNextPinLaw", "total", "(I[I)J"⟩ : MethodName) method_3_code 4 (some .long) [] ({ frames := 0, cells := 0, slots := 0, locals := 0 } : Room) #[(.int (0 : Int32)), (.ref b0)] h0 n0 (QJ fun r h' => r = (1 : Int64) ∧ h0 = h') := by
  refine OCon.mk (plainFor_of_name own_pn0) Z0 ?_
  intro p e s m below meth cd s₁ W0
  refine OF.cast (own_ef2_0 m (0 : Int32) b0) ?_
  have c_0___Int32_ : (0 : Int32).toInt = 0 := rfl
  have c_1___Int32_ : (1 : Int32).toInt = 1 := rfl
  have c_2___Int32_ : (2 : Int32).toInt = 2 := rfl
  refine o_lconst W0 (v := (1 : Int64)) own_d2_0 rfl (pc' := 1) rfl ?_
  refine o_lstoreN W0 (L' := #[.val (.int (0 : Int32)), .val (.ref b0), .val (.long (1 : Int64)), .second]) own_d2_1 rfl (pc' := 2) rfl ?_
  refine o_iloadN W0 own_d2_2 (v := (0 : Int32)) rfl (pc' := 3) rfl ?_
  refine o_if_le W0 own_d2_3 (by decide) (pq := 13) (by decide) (pc' := 6) rfl (fun hc3 => ?_) (fun hc3 => ?_)
  · refine o_iloadN W0 own_d2_13 (v := (0 : Int32)) rfl (pc' := 14) rfl ?_
    refine o_iconst W0 (v := (1 : Int32)) own_d2_14 rfl (pc' := 15) rfl ?_
    refine o_icmp_le W0 own_d2_15 (by decide) (pq := 25) (by decide) (pc' := 18) rfl (fun hc15 => ?_) (fun hc15 => ?_)
    · refine o_iloadN W0 own_d2_25 (v := (0 : Int32)) rfl (pc' := 26) rfl ?_
      refine o_iconst W0 (v := (2 : Int32)) own_d2_26 rfl (pc' := 27) rfl ?_
      refine o_icmp_le W0 own_d2_27 (by decide) (pq := 37) (by decide) (pc' := 30) rfl (fun hc27 => ?_) (fun hc27 => ?_)
      · refine o_lloadN W0 own_d2_37 (v := (1 : Int64)) rfl (pc' := 38) rfl ?_
        refine o_retJ W0 rfl own_d2_38 (by decide) (by decide) ?_
        exact ⟨_, rfl, rfl, rfl⟩
      · exact absurd hc27 (by decide)
    · exact absurd hc15 (by decide)
  · exact absurd hc3 (by decide)
theorem own_pn1 : plainName "com/example/private_knowledge_graphs/privateknowledgegraphs/release/Combinations" = true := by first | (simp [plainName, overriddenIn]; done) | decide +kernel
theorem own_ef3_0 (m : MethodId) (z0 : Addr) (z1 : Addr) : entryFrame m #[(.ref z0), (.ref z1)] 3 = mkF m 0 #[.val (.ref z0), .val (.ref z1), .unset] [] := by first | (simp [entryFrame, mkF, argsToLocals, Value.category]; done) | rfl
theorem own_d3_0 : decode prog_21_method_2_code 0 = .ok (.aload_n 0, 1) := by decide +kernel
theorem own_d3_1 : decode prog_21_method_2_code 1 = .ok (.arraylength, 1) := by decide +kernel
theorem own_d3_2 : decode prog_21_method_2_code 2 = .ok (.iconst 1, 1) := by decide +kernel
theorem own_d3_3 : decode prog_21_method_2_code 3 = .ok (.isub, 1) := by decide +kernel
theorem own_d3_4 : decode prog_21_method_2_code 4 = .ok (.istore_n 2, 1) := by decide +kernel
theorem own_d3_5 : decode prog_21_method_2_code 5 = .ok (.iload_n 2, 1) := by decide +kernel
theorem own_d3_6 : decode prog_21_method_2_code 6 = .ok (.ifCond .lt 31, 3) := by decide +kernel
theorem own_d3_37 : decode prog_21_method_2_code 37 = .ok (.iconst 0, 1) := by decide +kernel
theorem own_d3_38 : decode prog_21_method_2_code 38 = .ok (.ireturn, 1) := by decide +kernel
set_option maxRecDepth 65536 in
set_option maxHeartbeats 4000000 in
theorem rm3_0 (l : Launch) (Z : State) (a0 : Array Value) (hw : ∀ d ∈ tables_1, d.before a0 Z = true) (b0 : Addr) (b1 : Addr) (h0 : Heap) (n0 : Nat) (Z0 : n0 ≤ h0.size) (A0 : OA Z h0 b0 .int []) (A1 : OA Z h0 b1 .int []) (g0 : n0 ≤ b0) (ne_b1_b0 : b1 ≠ b0) :
    OCon l Z (⟨"com/example/private_knowledge_graphs/privateknowledgegraphs/release/Combinations", "next", "([I[I)Z"⟩ : MethodName) prog_21_method_2_code 3 (some .boolean) [] ({ frames := 0, cells := 0, slots := 0, locals := 0 } : Room) #[(.ref b0), (.ref b1)] h0 n0 (QI fun r h' => Keep h0 h' [b0] ∧ ((r = 0 ∧ OA Z h' b0 .int [] ∧ True))) := by
  refine OCon.mk (plainFor_of_name own_pn1) Z0 ?_
  intro p e s m below meth cd s₁ W0
  refine OF.cast (own_ef3_0 m b0 b1) ?_
  refine o_aloadN W0 own_d3_0 (v := (.ref b0)) rfl rfl (pc' := 1) rfl ?_
  refine o_arraylength W0 A0 own_d3_1 (pc' := 2) rfl ?_
  intro v1 hv1
  obtain rfl : v1 = (0 : Int32) := o_eq (y := (0 : Int32)) hv1
  refine o_iconst W0 (v := (1 : Int32)) own_d3_2 rfl (pc' := 3) rfl ?_
  refine o_isub W0 own_d3_3 (pc' := 4) rfl ?_
  show OF _ _ _ _ _ _ _ s₁ (mkF m 4 #[.val (.ref b0), .val (.ref b1), .unset] [(.int (-1 : Int32))])
  refine o_istoreN W0 (L' := #[.val (.ref b0), .val (.ref b1), .val (.int (-1 : Int32))]) own_d3_4 rfl (pc' := 5) rfl ?_
  refine o_iloadN W0 own_d3_5 (v := (-1 : Int32)) rfl (pc' := 6) rfl ?_
  refine o_if_lt W0 own_d3_6 (by decide) (pq := 37) (by decide) (pc' := 9) rfl (fun hc6 => ?_) (fun hc6 => ?_)
  · refine o_iconst W0 (v := (0 : Int32)) own_d3_37 rfl (pc' := 38) rfl ?_
    refine o_retN W0 (t := .boolean) rfl (by simp) own_d3_38 (by decide) (by decide) ?_
    exact ⟨_, rfl, Keep.refl _ _, ⟨rfl, A0, trivial⟩⟩
  · exact absurd hc6 (by decide)
theorem own_ef1_1 (m : MethodId) (z0 : Int32) (z1 : Addr) (z2 : Addr) : entryFrame m #[(.int z0), (.ref z1), (.ref z2)] 3 = mkF m 0 #[.val (.int z0), .val (.ref z1), .val (.ref z2)] [] := by first | (simp [entryFrame, mkF, argsToLocals, Value.category]; done) | rfl
theorem own_d1_6 : decode method_2_code 6 = .ok (.iload_n 0, 1) := by decide +kernel
theorem own_d1_7 : decode method_2_code 7 = .ok (.iconst 1, 1) := by decide +kernel
theorem own_d1_8 : decode method_2_code 8 = .ok (.if_icmp .ne 8, 3) := by decide +kernel
theorem own_d1_11 : decode method_2_code 11 = .ok (.aload_n 1, 1) := by decide +kernel
theorem own_d1_12 : decode method_2_code 12 = .ok (.iconst 0, 1) := by decide +kernel
theorem own_d1_13 : decode method_2_code 13 = .ok (.iaload, 1) := by decide +kernel
theorem own_d1_14 : decode method_2_code 14 = .ok (.i2l, 1) := by decide +kernel
theorem own_d1_15 : decode method_2_code 15 = .ok (.lreturn, 1) := by decide +kernel
set_option maxRecDepth 65536 in
set_option maxHeartbeats 4000000 in
theorem rm1_1 (l : Launch) (Z : State) (a0 : Array Value) (hw : ∀ d ∈ tables_1, d.before a0 Z = true) (b0 b1 : Addr) (h0 : Heap) (n0 : Nat) (Z0 : n0 ≤ h0.size) (k0 : Int32) (t0 : Int32) (A0 : OA Z h0 b0 .int [k0]) (A1 : OA Z h0 b1 .int [t0]) :
    OCon l Z (⟨"com/example/private_knowledge_graphs/privateknowledgegraphs/release/CombinationsNextPinLaw", "rank", "(I[I[I)J"⟩ : MethodName) method_2_code 3 (some .long) [] ({ frames := 0, cells := 0, slots := 0, locals := 0 } : Room) #[(.int (1 : Int32)), (.ref b0), (.ref b1)] h0 n0 (QJ fun r h' => r = k0.toInt64 ∧ h0 = h') := by
  refine OCon.mk (plainFor_of_name own_pn0) Z0 ?_
  intro p e s m below meth cd s₁ W0
  refine OF.cast (own_ef1_1 m (1 : Int32) b0 b1) ?_
  have c_1___Int32_ : (1 : Int32).toInt = 1 := rfl
  refine o_iloadN W0 own_d1_0 (v := (1 : Int32)) rfl (pc' := 1) rfl ?_
  refine o_if_ne W0 own_d1_1 (by decide) (pq := 6) (by decide) (pc' := 4) rfl (fun hc1 => ?_) (fun hc1 => ?_)
  · refine o_iloadN W0 own_d1_6 (v := (1 : Int32)) rfl (pc' := 7) rfl ?_
    refine o_iconst W0 (v := (1 : Int32)) own_d1_7 rfl (pc' := 8) rfl ?_
    refine o_icmp_ne W0 own_d1_8 (by decide) (pq := 16) (by decide) (pc' := 11) rfl (fun hc8 => ?_) (fun hc8 => ?_)
    · exact absurd hc8 (by decide)
    · refine o_aloadN W0 own_d1_11 (v := (.ref b0)) rfl rfl (pc' := 12) rfl ?_
      refine o_iconst W0 (v := (0 : Int32)) own_d1_12 rfl (pc' := 13) rfl ?_
      refine o_iaload W0 A0 own_d1_13 (pc' := 14) rfl (i := 0) (v := k0) rfl rfl ?_
      refine o_i2l W0 own_d1_14 (pc' := 15) rfl ?_
      refine o_retJ W0 rfl own_d1_15 (by decide) (by decide) ?_
      exact ⟨_, rfl, rfl, rfl⟩
  · exact absurd hc1 (by decide)
theorem own_ef2_1 (m : MethodId) (z0 : Int32) (z1 : Addr) : entryFrame m #[(.int z0), (.ref z1)] 4 = mkF m 0 #[.val (.int z0), .val (.ref z1), .unset, .unset] [] := by first | (simp [entryFrame, mkF, argsToLocals, Value.category]; done) | rfl
theorem own_d2_6 : decode method_3_code 6 = .ok (.lload_n 2, 1) := by decide +kernel
theorem own_d2_7 : decode method_3_code 7 = .ok (.aload_n 1, 1) := by decide +kernel
theorem own_d2_8 : decode method_3_code 8 = .ok (.iconst 0, 1) := by decide +kernel
theorem own_d2_9 : decode method_3_code 9 = .ok (.iaload, 1) := by decide +kernel
theorem own_d2_10 : decode method_3_code 10 = .ok (.i2l, 1) := by decide +kernel
theorem own_d2_11 : decode method_3_code 11 = .ok (.lmul, 1) := by decide +kernel
theorem own_d2_12 : decode method_3_code 12 = .ok (.lstore_n 2, 1) := by decide +kernel
set_option maxRecDepth 65536 in
set_option maxHeartbeats 4000000 in
theorem rm2_1 (l : Launch) (Z : State) (a0 : Array Value) (hw : ∀ d ∈ tables_1, d.before a0 Z = true) (b0 : Addr) (h0 : Heap) (n0 : Nat) (Z0 : n0 ≤ h0.size) (t0 : Int32) (A0 : OA Z h0 b0 .int [t0]) :
    OCon l Z (⟨"com/example/private_knowledge_graphs/privateknowledgegraphs/release/CombinationsNextPinLaw", "total", "(I[I)J"⟩ : MethodName) method_3_code 4 (some .long) [] ({ frames := 0, cells := 0, slots := 0, locals := 0 } : Room) #[(.int (1 : Int32)), (.ref b0)] h0 n0 (QJ fun r h' => r = ((1 : Int64) * t0.toInt64) ∧ h0 = h') := by
  refine OCon.mk (plainFor_of_name own_pn0) Z0 ?_
  intro p e s m below meth cd s₁ W0
  refine OF.cast (own_ef2_1 m (1 : Int32) b0) ?_
  have c_1___Int32_ : (1 : Int32).toInt = 1 := rfl
  have c_2___Int32_ : (2 : Int32).toInt = 2 := rfl
  refine o_lconst W0 (v := (1 : Int64)) own_d2_0 rfl (pc' := 1) rfl ?_
  refine o_lstoreN W0 (L' := #[.val (.int (1 : Int32)), .val (.ref b0), .val (.long (1 : Int64)), .second]) own_d2_1 rfl (pc' := 2) rfl ?_
  refine o_iloadN W0 own_d2_2 (v := (1 : Int32)) rfl (pc' := 3) rfl ?_
  refine o_if_le W0 own_d2_3 (by decide) (pq := 13) (by decide) (pc' := 6) rfl (fun hc3 => ?_) (fun hc3 => ?_)
  · exact absurd hc3 (by decide)
  · refine o_lloadN W0 own_d2_6 (v := (1 : Int64)) rfl (pc' := 7) rfl ?_
    refine o_aloadN W0 own_d2_7 (v := (.ref b0)) rfl rfl (pc' := 8) rfl ?_
    refine o_iconst W0 (v := (0 : Int32)) own_d2_8 rfl (pc' := 9) rfl ?_
    refine o_iaload W0 A0 own_d2_9 (pc' := 10) rfl (i := 0) (v := t0) rfl rfl ?_
    refine o_i2l W0 own_d2_10 (pc' := 11) rfl ?_
    refine o_lmul W0 own_d2_11 (pc' := 12) rfl ?_
    refine o_lstoreN W0 (L' := #[.val (.int (1 : Int32)), .val (.ref b0), .val (.long ((1 : Int64) * (t0.toInt64))), .second]) own_d2_12 rfl (pc' := 13) rfl ?_
    refine o_iloadN W0 own_d2_13 (v := (1 : Int32)) rfl (pc' := 14) rfl ?_
    refine o_iconst W0 (v := (1 : Int32)) own_d2_14 rfl (pc' := 15) rfl ?_
    refine o_icmp_le W0 own_d2_15 (by decide) (pq := 25) (by decide) (pc' := 18) rfl (fun hc15 => ?_) (fun hc15 => ?_)
    · refine o_iloadN W0 own_d2_25 (v := (1 : Int32)) rfl (pc' := 26) rfl ?_
      refine o_iconst W0 (v := (2 : Int32)) own_d2_26 rfl (pc' := 27) rfl ?_
      refine o_icmp_le W0 own_d2_27 (by decide) (pq := 37) (by decide) (pc' := 30) rfl (fun hc27 => ?_) (fun hc27 => ?_)
      · refine o_lloadN W0 own_d2_37 (v := ((1 : Int64) * (t0.toInt64))) rfl (pc' := 38) rfl ?_
        refine o_retJ W0 rfl own_d2_38 (by decide) (by decide) ?_
        exact ⟨_, rfl, rfl, rfl⟩
      · exact absurd hc27 (by decide)
    · exact absurd hc15 (by decide)
theorem own_ef3_1 (m : MethodId) (z0 : Addr) (z1 : Addr) : entryFrame m #[(.ref z0), (.ref z1)] 3 = mkF m 0 #[.val (.ref z0), .val (.ref z1), .unset] [] := by first | (simp [entryFrame, mkF, argsToLocals, Value.category]; done) | rfl
theorem own_d3_9 : decode prog_21_method_2_code 9 = .ok (.aload_n 0, 1) := by decide +kernel
theorem own_d3_10 : decode prog_21_method_2_code 10 = .ok (.iload_n 2, 1) := by decide +kernel
theorem own_d3_11 : decode prog_21_method_2_code 11 = .ok (.dup2, 1) := by decide +kernel
theorem own_d3_12 : decode prog_21_method_2_code 12 = .ok (.iaload, 1) := by decide +kernel
theorem own_d3_13 : decode prog_21_method_2_code 13 = .ok (.iconst 1, 1) := by decide +kernel
theorem own_d3_14 : decode prog_21_method_2_code 14 = .ok (.iadd, 1) := by decide +kernel
theorem own_d3_15 : decode prog_21_method_2_code 15 = .ok (.iastore, 1) := by decide +kernel
theorem own_d3_16 : decode prog_21_method_2_code 16 = .ok (.aload_n 0, 1) := by decide +kernel
theorem own_d3_17 : decode prog_21_method_2_code 17 = .ok (.iload_n 2, 1) := by decide +kernel
theorem own_d3_18 : decode prog_21_method_2_code 18 = .ok (.iaload, 1) := by decide +kernel
theorem own_d3_19 : decode prog_21_method_2_code 19 = .ok (.aload_n 1, 1) := by decide +kernel
theorem own_d3_20 : decode prog_21_method_2_code 20 = .ok (.iload_n 2, 1) := by decide +kernel
theorem own_d3_21 : decode prog_21_method_2_code 21 = .ok (.iaload, 1) := by decide +kernel
theorem own_d3_22 : decode prog_21_method_2_code 22 = .ok (.if_icmp .ge 5, 3) := by decide +kernel
theorem own_d3_27 : decode prog_21_method_2_code 27 = .ok (.aload_n 0, 1) := by decide +kernel
theorem own_d3_28 : decode prog_21_method_2_code 28 = .ok (.iload_n 2, 1) := by decide +kernel
theorem own_d3_29 : decode prog_21_method_2_code 29 = .ok (.iconst 0, 1) := by decide +kernel
theorem own_d3_30 : decode prog_21_method_2_code 30 = .ok (.iastore, 1) := by decide +kernel
theorem own_d3_31 : decode prog_21_method_2_code 31 = .ok (.iinc 2 (-1), 3) := by decide +kernel
theorem own_d3_34 : decode prog_21_method_2_code 34 = .ok (.goto (-29), 3) := by decide +kernel
theorem own_d3_25 : decode prog_21_method_2_code 25 = .ok (.iconst 1, 1) := by decide +kernel
theorem own_d3_26 : decode prog_21_method_2_code 26 = .ok (.ireturn, 1) := by decide +kernel
set_option maxRecDepth 65536 in
set_option maxHeartbeats 4000000 in
theorem rm3_1 (l : Launch) (Z : State) (a0 : Array Value) (hw : ∀ d ∈ tables_1, d.before a0 Z = true) (b0 : Addr) (b1 : Addr) (h0 : Heap) (n0 : Nat) (Z0 : n0 ≤ h0.size) (k0 : Int32) (t0 : Int32) (A0 : OA Z h0 b0 .int [k0]) (A1 : OA Z h0 b1 .int [t0]) (g0 : n0 ≤ b0) (ne_b1_b0 : b1 ≠ b0) :
    OCon l Z (⟨"com/example/private_knowledge_graphs/privateknowledgegraphs/release/Combinations", "next", "([I[I)Z"⟩ : MethodName) prog_21_method_2_code 3 (some .boolean) [] ({ frames := 0, cells := 0, slots := 0, locals := 0 } : Room) #[(.ref b0), (.ref b1)] h0 n0 (QI fun r h' => Keep h0 h' [b0] ∧ ((r = 1 ∧ OA Z h' b0 .int [(k0 + 1)] ∧ (k0 + 1).toInt < t0.toInt) ∨ (r = 0 ∧ OA Z h' b0 .int [0] ∧ t0.toInt ≤ (k0 + 1).toInt))) := by
  refine OCon.mk (plainFor_of_name own_pn1) Z0 ?_
  intro p e s m below meth cd s₁ W0
  refine OF.cast (own_ef3_1 m b0 b1) ?_
  refine o_aloadN W0 own_d3_0 (v := (.ref b0)) rfl rfl (pc' := 1) rfl ?_
  refine o_arraylength W0 A0 own_d3_1 (pc' := 2) rfl ?_
  intro v2 hv2
  obtain rfl : v2 = (1 : Int32) := o_eq (y := (1 : Int32)) hv2
  refine o_iconst W0 (v := (1 : Int32)) own_d3_2 rfl (pc' := 3) rfl ?_
  refine o_isub W0 own_d3_3 (pc' := 4) rfl ?_
  show OF _ _ _ _ _ _ _ s₁ (mkF m 4 #[.val (.ref b0), .val (.ref b1), .unset] [(.int (0 : Int32))])
  refine o_istoreN W0 (L' := #[.val (.ref b0), .val (.ref b1), .val (.int (0 : Int32))]) own_d3_4 rfl (pc' := 5) rfl ?_
  refine o_iloadN W0 own_d3_5 (v := (0 : Int32)) rfl (pc' := 6) rfl ?_
  refine o_if_lt W0 own_d3_6 (by decide) (pq := 37) (by decide) (pc' := 9) rfl (fun hc6 => ?_) (fun hc6 => ?_)
  · exact absurd hc6 (by decide)
  · refine o_aloadN W0 own_d3_9 (v := (.ref b0)) rfl rfl (pc' := 10) rfl ?_
    refine o_iloadN W0 own_d3_10 (v := (0 : Int32)) rfl (pc' := 11) rfl ?_
    refine o_dup2 W0 own_d3_11 rfl rfl (pc' := 12) rfl ?_
    refine o_iaload W0 A0 own_d3_12 (pc' := 13) rfl (i := 0) (v := k0) rfl rfl ?_
    refine o_iconst W0 (v := (1 : Int32)) own_d3_13 rfl (pc' := 14) rfl ?_
    refine o_iadd W0 own_d3_14 (pc' := 15) rfl ?_
    refine o_iastore W0 A0 g0 own_d3_15 (pc' := 16) rfl (i := 0) rfl (Nat.le_of_ble_eq_true rfl) ?_
    intro T3 h3 W3 K3 A_b0_3
    have A_b1_3 := A1.keep1 K3 ne_b1_b0
    have A_b0_3 : OA Z h3 b0 .int [(k0 + (1 : Int32))] := A_b0_3
    have KK_K3 : Keep h0 h3 [b0] := (Keep.refl _ _).trans K3 (fun x hx => Or.inl hx)
    refine o_aloadN W3 own_d3_16 (v := (.ref b0)) rfl rfl (pc' := 17) rfl ?_
    refine o_iloadN W3 own_d3_17 (v := (0 : Int32)) rfl (pc' := 18) rfl ?_
    refine o_iaload W3 A_b0_3 own_d3_18 (pc' := 19) rfl (i := 0) (v := (k0 + (1 : Int32))) rfl rfl ?_
    refine o_aloadN W3 own_d3_19 (v := (.ref b1)) rfl rfl (pc' := 20) rfl ?_
    refine o_iloadN W3 own_d3_20 (v := (0 : Int32)) rfl (pc' := 21) rfl ?_
    refine o_iaload W3 A_b1_3 own_d3_21 (pc' := 22) rfl (i := 0) (v := t0) rfl rfl ?_
    refine o_icmp_ge W3 own_d3_22 (by decide) (pq := 27) (by decide) (pc' := 25) rfl (fun hc22 => ?_) (fun hc22 => ?_)
    · refine o_aloadN W3 own_d3_27 (v := (.ref b0)) rfl rfl (pc' := 28) rfl ?_
      refine o_iloadN W3 own_d3_28 (v := (0 : Int32)) rfl (pc' := 29) rfl ?_
      refine o_iconst W3 (v := (0 : Int32)) own_d3_29 rfl (pc' := 30) rfl ?_
      refine o_iastore W3 A_b0_3 g0 own_d3_30 (pc' := 31) rfl (i := 0) rfl (Nat.le_of_ble_eq_true rfl) ?_
      intro T4 h4 W4 K4 A_b0_4
      have A_b1_4 := A_b1_3.keep1 K4 ne_b1_b0
      have A_b0_4 : OA Z h4 b0 .int [(0 : Int32)] := A_b0_4
      have KK_K4 : Keep h0 h4 [b0] := (KK_K3).trans K4 (fun x hx => Or.inl hx)
      refine o_iinc W4 (x := (0 : Int32)) (L' := #[.val (.ref b0), .val (.ref b1), .val (.int ((0 : Int32) + (-1 : Int32)))]) own_d3_31 rfl rfl (pc' := 34) rfl ?_
      show OF _ _ _ _ _ _ _ T4 (mkF m 34 #[.val (.ref b0), .val (.ref b1), .val (.int (-1 : Int32))] [])
      refine o_goto W4 own_d3_34 (by decide) (pq := 5) (by decide) ?_
      refine o_iloadN W4 own_d3_5 (v := (-1 : Int32)) rfl (pc' := 6) rfl ?_
      refine o_if_lt W4 own_d3_6 (by decide) (pq := 37) (by decide) (pc' := 9) rfl (fun hc6 => ?_) (fun hc6 => ?_)
      · refine o_iconst W4 (v := (0 : Int32)) own_d3_37 rfl (pc' := 38) rfl ?_
        refine o_retN W4 (t := .boolean) rfl (by simp) own_d3_38 (by decide) (by decide) ?_
        exact ⟨_, rfl, KK_K4, Or.inr (⟨rfl, A_b0_4, by omega⟩)⟩
      · exact absurd hc6 (by decide)
    · refine o_iconst W3 (v := (1 : Int32)) own_d3_25 rfl (pc' := 26) rfl ?_
      refine o_retN W3 (t := .boolean) rfl (by simp) own_d3_26 (by decide) (by decide) ?_
      exact ⟨_, rfl, KK_K3, Or.inl (⟨rfl, A_b0_3, by omega⟩)⟩
theorem own_ef1_2 (m : MethodId) (z0 : Int32) (z1 : Addr) (z2 : Addr) : entryFrame m #[(.int z0), (.ref z1), (.ref z2)] 3 = mkF m 0 #[.val (.int z0), .val (.ref z1), .val (.ref z2)] [] := by first | (simp [entryFrame, mkF, argsToLocals, Value.category]; done) | rfl
theorem own_d1_16 : decode method_2_code 16 = .ok (.iload_n 0, 1) := by decide +kernel
theorem own_d1_17 : decode method_2_code 17 = .ok (.iconst 2, 1) := by decide +kernel
theorem own_d1_18 : decode method_2_code 18 = .ok (.if_icmp .ne 18, 3) := by decide +kernel
theorem own_d1_21 : decode method_2_code 21 = .ok (.aload_n 1, 1) := by decide +kernel
theorem own_d1_22 : decode method_2_code 22 = .ok (.iconst 0, 1) := by decide +kernel
theorem own_d1_23 : decode method_2_code 23 = .ok (.iaload, 1) := by decide +kernel
theorem own_d1_24 : decode method_2_code 24 = .ok (.i2l, 1) := by decide +kernel
theorem own_d1_25 : decode method_2_code 25 = .ok (.aload_n 2, 1) := by decide +kernel
theorem own_d1_26 : decode method_2_code 26 = .ok (.iconst 1, 1) := by decide +kernel
theorem own_d1_27 : decode method_2_code 27 = .ok (.iaload, 1) := by decide +kernel
theorem own_d1_28 : decode method_2_code 28 = .ok (.i2l, 1) := by decide +kernel
theorem own_d1_29 : decode method_2_code 29 = .ok (.lmul, 1) := by decide +kernel
theorem own_d1_30 : decode method_2_code 30 = .ok (.aload_n 1, 1) := by decide +kernel
theorem own_d1_31 : decode method_2_code 31 = .ok (.iconst 1, 1) := by decide +kernel
theorem own_d1_32 : decode method_2_code 32 = .ok (.iaload, 1) := by decide +kernel
theorem own_d1_33 : decode method_2_code 33 = .ok (.i2l, 1) := by decide +kernel
theorem own_d1_34 : decode method_2_code 34 = .ok (.ladd, 1) := by decide +kernel
theorem own_d1_35 : decode method_2_code 35 = .ok (.lreturn, 1) := by decide +kernel
set_option maxRecDepth 65536 in
set_option maxHeartbeats 4000000 in
theorem rm1_2 (l : Launch) (Z : State) (a0 : Array Value) (hw : ∀ d ∈ tables_1, d.before a0 Z = true) (b0 b1 : Addr) (h0 : Heap) (n0 : Nat) (Z0 : n0 ≤ h0.size) (k0 k1 : Int32) (t0 t1 : Int32) (A0 : OA Z h0 b0 .int [k0, k1]) (A1 : OA Z h0 b1 .int [t0, t1]) :
    OCon l Z (⟨"com/example/private_knowledge_graphs/privateknowledgegraphs/release/CombinationsNextPinLaw", "rank", "(I[I[I)J"⟩ : MethodName) method_2_code 3 (some .long) [] ({ frames := 0, cells := 0, slots := 0, locals := 0 } : Room) #[(.int (2 : Int32)), (.ref b0), (.ref b1)] h0 n0 (QJ fun r h' => r = (k0.toInt64 * t1.toInt64 + k1.toInt64) ∧ h0 = h') := by
  refine OCon.mk (plainFor_of_name own_pn0) Z0 ?_
  intro p e s m below meth cd s₁ W0
  refine OF.cast (own_ef1_2 m (2 : Int32) b0 b1) ?_
  have c_1___Int32_ : (1 : Int32).toInt = 1 := rfl
  have c_2___Int32_ : (2 : Int32).toInt = 2 := rfl
  refine o_iloadN W0 own_d1_0 (v := (2 : Int32)) rfl (pc' := 1) rfl ?_
  refine o_if_ne W0 own_d1_1 (by decide) (pq := 6) (by decide) (pc' := 4) rfl (fun hc1 => ?_) (fun hc1 => ?_)
  · refine o_iloadN W0 own_d1_6 (v := (2 : Int32)) rfl (pc' := 7) rfl ?_
    refine o_iconst W0 (v := (1 : Int32)) own_d1_7 rfl (pc' := 8) rfl ?_
    refine o_icmp_ne W0 own_d1_8 (by decide) (pq := 16) (by decide) (pc' := 11) rfl (fun hc8 => ?_) (fun hc8 => ?_)
    · refine o_iloadN W0 own_d1_16 (v := (2 : Int32)) rfl (pc' := 17) rfl ?_
      refine o_iconst W0 (v := (2 : Int32)) own_d1_17 rfl (pc' := 18) rfl ?_
      refine o_icmp_ne W0 own_d1_18 (by decide) (pq := 36) (by decide) (pc' := 21) rfl (fun hc18 => ?_) (fun hc18 => ?_)
      · exact absurd hc18 (by decide)
      · refine o_aloadN W0 own_d1_21 (v := (.ref b0)) rfl rfl (pc' := 22) rfl ?_
        refine o_iconst W0 (v := (0 : Int32)) own_d1_22 rfl (pc' := 23) rfl ?_
        refine o_iaload W0 A0 own_d1_23 (pc' := 24) rfl (i := 0) (v := k0) rfl rfl ?_
        refine o_i2l W0 own_d1_24 (pc' := 25) rfl ?_
        refine o_aloadN W0 own_d1_25 (v := (.ref b1)) rfl rfl (pc' := 26) rfl ?_
        refine o_iconst W0 (v := (1 : Int32)) own_d1_26 rfl (pc' := 27) rfl ?_
        refine o_iaload W0 A1 own_d1_27 (pc' := 28) rfl (i := 1) (v := t1) rfl rfl ?_
        refine o_i2l W0 own_d1_28 (pc' := 29) rfl ?_
        refine o_lmul W0 own_d1_29 (pc' := 30) rfl ?_
        refine o_aloadN W0 own_d1_30 (v := (.ref b0)) rfl rfl (pc' := 31) rfl ?_
        refine o_iconst W0 (v := (1 : Int32)) own_d1_31 rfl (pc' := 32) rfl ?_
        refine o_iaload W0 A0 own_d1_32 (pc' := 33) rfl (i := 1) (v := k1) rfl rfl ?_
        refine o_i2l W0 own_d1_33 (pc' := 34) rfl ?_
        refine o_ladd W0 own_d1_34 (pc' := 35) rfl ?_
        refine o_retJ W0 rfl own_d1_35 (by decide) (by decide) ?_
        exact ⟨_, rfl, rfl, rfl⟩
    · exact absurd hc8 (by decide)
  · exact absurd hc1 (by decide)
theorem own_ef2_2 (m : MethodId) (z0 : Int32) (z1 : Addr) : entryFrame m #[(.int z0), (.ref z1)] 4 = mkF m 0 #[.val (.int z0), .val (.ref z1), .unset, .unset] [] := by first | (simp [entryFrame, mkF, argsToLocals, Value.category]; done) | rfl
theorem own_d2_18 : decode method_3_code 18 = .ok (.lload_n 2, 1) := by decide +kernel
theorem own_d2_19 : decode method_3_code 19 = .ok (.aload_n 1, 1) := by decide +kernel
theorem own_d2_20 : decode method_3_code 20 = .ok (.iconst 1, 1) := by decide +kernel
theorem own_d2_21 : decode method_3_code 21 = .ok (.iaload, 1) := by decide +kernel
theorem own_d2_22 : decode method_3_code 22 = .ok (.i2l, 1) := by decide +kernel
theorem own_d2_23 : decode method_3_code 23 = .ok (.lmul, 1) := by decide +kernel
theorem own_d2_24 : decode method_3_code 24 = .ok (.lstore_n 2, 1) := by decide +kernel
set_option maxRecDepth 65536 in
set_option maxHeartbeats 4000000 in
theorem rm2_2 (l : Launch) (Z : State) (a0 : Array Value) (hw : ∀ d ∈ tables_1, d.before a0 Z = true) (b0 : Addr) (h0 : Heap) (n0 : Nat) (Z0 : n0 ≤ h0.size) (t0 t1 : Int32) (A0 : OA Z h0 b0 .int [t0, t1]) :
    OCon l Z (⟨"com/example/private_knowledge_graphs/privateknowledgegraphs/release/CombinationsNextPinLaw", "total", "(I[I)J"⟩ : MethodName) method_3_code 4 (some .long) [] ({ frames := 0, cells := 0, slots := 0, locals := 0 } : Room) #[(.int (2 : Int32)), (.ref b0)] h0 n0 (QJ fun r h' => r = (((1 : Int64) * t0.toInt64) * t1.toInt64) ∧ h0 = h') := by
  refine OCon.mk (plainFor_of_name own_pn0) Z0 ?_
  intro p e s m below meth cd s₁ W0
  refine OF.cast (own_ef2_2 m (2 : Int32) b0) ?_
  have c_1___Int32_ : (1 : Int32).toInt = 1 := rfl
  have c_2___Int32_ : (2 : Int32).toInt = 2 := rfl
  refine o_lconst W0 (v := (1 : Int64)) own_d2_0 rfl (pc' := 1) rfl ?_
  refine o_lstoreN W0 (L' := #[.val (.int (2 : Int32)), .val (.ref b0), .val (.long (1 : Int64)), .second]) own_d2_1 rfl (pc' := 2) rfl ?_
  refine o_iloadN W0 own_d2_2 (v := (2 : Int32)) rfl (pc' := 3) rfl ?_
  refine o_if_le W0 own_d2_3 (by decide) (pq := 13) (by decide) (pc' := 6) rfl (fun hc3 => ?_) (fun hc3 => ?_)
  · exact absurd hc3 (by decide)
  · refine o_lloadN W0 own_d2_6 (v := (1 : Int64)) rfl (pc' := 7) rfl ?_
    refine o_aloadN W0 own_d2_7 (v := (.ref b0)) rfl rfl (pc' := 8) rfl ?_
    refine o_iconst W0 (v := (0 : Int32)) own_d2_8 rfl (pc' := 9) rfl ?_
    refine o_iaload W0 A0 own_d2_9 (pc' := 10) rfl (i := 0) (v := t0) rfl rfl ?_
    refine o_i2l W0 own_d2_10 (pc' := 11) rfl ?_
    refine o_lmul W0 own_d2_11 (pc' := 12) rfl ?_
    refine o_lstoreN W0 (L' := #[.val (.int (2 : Int32)), .val (.ref b0), .val (.long ((1 : Int64) * (t0.toInt64))), .second]) own_d2_12 rfl (pc' := 13) rfl ?_
    refine o_iloadN W0 own_d2_13 (v := (2 : Int32)) rfl (pc' := 14) rfl ?_
    refine o_iconst W0 (v := (1 : Int32)) own_d2_14 rfl (pc' := 15) rfl ?_
    refine o_icmp_le W0 own_d2_15 (by decide) (pq := 25) (by decide) (pc' := 18) rfl (fun hc15 => ?_) (fun hc15 => ?_)
    · exact absurd hc15 (by decide)
    · refine o_lloadN W0 own_d2_18 (v := ((1 : Int64) * (t0.toInt64))) rfl (pc' := 19) rfl ?_
      refine o_aloadN W0 own_d2_19 (v := (.ref b0)) rfl rfl (pc' := 20) rfl ?_
      refine o_iconst W0 (v := (1 : Int32)) own_d2_20 rfl (pc' := 21) rfl ?_
      refine o_iaload W0 A0 own_d2_21 (pc' := 22) rfl (i := 1) (v := t1) rfl rfl ?_
      refine o_i2l W0 own_d2_22 (pc' := 23) rfl ?_
      refine o_lmul W0 own_d2_23 (pc' := 24) rfl ?_
      refine o_lstoreN W0 (L' := #[.val (.int (2 : Int32)), .val (.ref b0), .val (.long (((1 : Int64) * (t0.toInt64)) * (t1.toInt64))), .second]) own_d2_24 rfl (pc' := 25) rfl ?_
      refine o_iloadN W0 own_d2_25 (v := (2 : Int32)) rfl (pc' := 26) rfl ?_
      refine o_iconst W0 (v := (2 : Int32)) own_d2_26 rfl (pc' := 27) rfl ?_
      refine o_icmp_le W0 own_d2_27 (by decide) (pq := 37) (by decide) (pc' := 30) rfl (fun hc27 => ?_) (fun hc27 => ?_)
      · refine o_lloadN W0 own_d2_37 (v := (((1 : Int64) * (t0.toInt64)) * (t1.toInt64))) rfl (pc' := 38) rfl ?_
        refine o_retJ W0 rfl own_d2_38 (by decide) (by decide) ?_
        exact ⟨_, rfl, rfl, rfl⟩
      · exact absurd hc27 (by decide)
theorem own_ef3_2 (m : MethodId) (z0 : Addr) (z1 : Addr) : entryFrame m #[(.ref z0), (.ref z1)] 3 = mkF m 0 #[.val (.ref z0), .val (.ref z1), .unset] [] := by first | (simp [entryFrame, mkF, argsToLocals, Value.category]; done) | rfl
set_option maxRecDepth 65536 in
set_option maxHeartbeats 4000000 in
theorem rm3_2 (l : Launch) (Z : State) (a0 : Array Value) (hw : ∀ d ∈ tables_1, d.before a0 Z = true) (b0 : Addr) (b1 : Addr) (h0 : Heap) (n0 : Nat) (Z0 : n0 ≤ h0.size) (k0 k1 : Int32) (t0 t1 : Int32) (A0 : OA Z h0 b0 .int [k0, k1]) (A1 : OA Z h0 b1 .int [t0, t1]) (g0 : n0 ≤ b0) (ne_b1_b0 : b1 ≠ b0) :
    OCon l Z (⟨"com/example/private_knowledge_graphs/privateknowledgegraphs/release/Combinations", "next", "([I[I)Z"⟩ : MethodName) prog_21_method_2_code 3 (some .boolean) [] ({ frames := 0, cells := 0, slots := 0, locals := 0 } : Room) #[(.ref b0), (.ref b1)] h0 n0 (QI fun r h' => Keep h0 h' [b0] ∧ ((r = 1 ∧ OA Z h' b0 .int [k0, (k1 + 1)] ∧ (k1 + 1).toInt < t1.toInt) ∨ (r = 1 ∧ OA Z h' b0 .int [(k0 + 1), 0] ∧ t1.toInt ≤ (k1 + 1).toInt ∧ (k0 + 1).toInt < t0.toInt) ∨ (r = 0 ∧ OA Z h' b0 .int [0, 0] ∧ t0.toInt ≤ (k0 + 1).toInt ∧ t1.toInt ≤ (k1 + 1).toInt))) := by
  refine OCon.mk (plainFor_of_name own_pn1) Z0 ?_
  intro p e s m below meth cd s₁ W0
  refine OF.cast (own_ef3_2 m b0 b1) ?_
  refine o_aloadN W0 own_d3_0 (v := (.ref b0)) rfl rfl (pc' := 1) rfl ?_
  refine o_arraylength W0 A0 own_d3_1 (pc' := 2) rfl ?_
  intro v5 hv5
  obtain rfl : v5 = (2 : Int32) := o_eq (y := (2 : Int32)) hv5
  refine o_iconst W0 (v := (1 : Int32)) own_d3_2 rfl (pc' := 3) rfl ?_
  refine o_isub W0 own_d3_3 (pc' := 4) rfl ?_
  show OF _ _ _ _ _ _ _ s₁ (mkF m 4 #[.val (.ref b0), .val (.ref b1), .unset] [(.int (1 : Int32))])
  refine o_istoreN W0 (L' := #[.val (.ref b0), .val (.ref b1), .val (.int (1 : Int32))]) own_d3_4 rfl (pc' := 5) rfl ?_
  refine o_iloadN W0 own_d3_5 (v := (1 : Int32)) rfl (pc' := 6) rfl ?_
  refine o_if_lt W0 own_d3_6 (by decide) (pq := 37) (by decide) (pc' := 9) rfl (fun hc6 => ?_) (fun hc6 => ?_)
  · exact absurd hc6 (by decide)
  · refine o_aloadN W0 own_d3_9 (v := (.ref b0)) rfl rfl (pc' := 10) rfl ?_
    refine o_iloadN W0 own_d3_10 (v := (1 : Int32)) rfl (pc' := 11) rfl ?_
    refine o_dup2 W0 own_d3_11 rfl rfl (pc' := 12) rfl ?_
    refine o_iaload W0 A0 own_d3_12 (pc' := 13) rfl (i := 1) (v := k1) rfl rfl ?_
    refine o_iconst W0 (v := (1 : Int32)) own_d3_13 rfl (pc' := 14) rfl ?_
    refine o_iadd W0 own_d3_14 (pc' := 15) rfl ?_
    refine o_iastore W0 A0 g0 own_d3_15 (pc' := 16) rfl (i := 1) rfl (Nat.le_of_ble_eq_true rfl) ?_
    intro T6 h6 W6 K6 A_b0_6
    have A_b1_6 := A1.keep1 K6 ne_b1_b0
    have A_b0_6 : OA Z h6 b0 .int [k0, (k1 + (1 : Int32))] := A_b0_6
    have KK_K6 : Keep h0 h6 [b0] := (Keep.refl _ _).trans K6 (fun x hx => Or.inl hx)
    refine o_aloadN W6 own_d3_16 (v := (.ref b0)) rfl rfl (pc' := 17) rfl ?_
    refine o_iloadN W6 own_d3_17 (v := (1 : Int32)) rfl (pc' := 18) rfl ?_
    refine o_iaload W6 A_b0_6 own_d3_18 (pc' := 19) rfl (i := 1) (v := (k1 + (1 : Int32))) rfl rfl ?_
    refine o_aloadN W6 own_d3_19 (v := (.ref b1)) rfl rfl (pc' := 20) rfl ?_
    refine o_iloadN W6 own_d3_20 (v := (1 : Int32)) rfl (pc' := 21) rfl ?_
    refine o_iaload W6 A_b1_6 own_d3_21 (pc' := 22) rfl (i := 1) (v := t1) rfl rfl ?_
    refine o_icmp_ge W6 own_d3_22 (by decide) (pq := 27) (by decide) (pc' := 25) rfl (fun hc22 => ?_) (fun hc22 => ?_)
    · refine o_aloadN W6 own_d3_27 (v := (.ref b0)) rfl rfl (pc' := 28) rfl ?_
      refine o_iloadN W6 own_d3_28 (v := (1 : Int32)) rfl (pc' := 29) rfl ?_
      refine o_iconst W6 (v := (0 : Int32)) own_d3_29 rfl (pc' := 30) rfl ?_
      refine o_iastore W6 A_b0_6 g0 own_d3_30 (pc' := 31) rfl (i := 1) rfl (Nat.le_of_ble_eq_true rfl) ?_
      intro T7 h7 W7 K7 A_b0_7
      have A_b1_7 := A_b1_6.keep1 K7 ne_b1_b0
      have A_b0_7 : OA Z h7 b0 .int [k0, (0 : Int32)] := A_b0_7
      have KK_K7 : Keep h0 h7 [b0] := (KK_K6).trans K7 (fun x hx => Or.inl hx)
      refine o_iinc W7 (x := (1 : Int32)) (L' := #[.val (.ref b0), .val (.ref b1), .val (.int ((1 : Int32) + (-1 : Int32)))]) own_d3_31 rfl rfl (pc' := 34) rfl ?_
      show OF _ _ _ _ _ _ _ T7 (mkF m 34 #[.val (.ref b0), .val (.ref b1), .val (.int (0 : Int32))] [])
      refine o_goto W7 own_d3_34 (by decide) (pq := 5) (by decide) ?_
      refine o_iloadN W7 own_d3_5 (v := (0 : Int32)) rfl (pc' := 6) rfl ?_
      refine o_if_lt W7 own_d3_6 (by decide) (pq := 37) (by decide) (pc' := 9) rfl (fun hc6 => ?_) (fun hc6 => ?_)
      · exact absurd hc6 (by decide)
      · refine o_aloadN W7 own_d3_9 (v := (.ref b0)) rfl rfl (pc' := 10) rfl ?_
        refine o_iloadN W7 own_d3_10 (v := (0 : Int32)) rfl (pc' := 11) rfl ?_
        refine o_dup2 W7 own_d3_11 rfl rfl (pc' := 12) rfl ?_
        refine o_iaload W7 A_b0_7 own_d3_12 (pc' := 13) rfl (i := 0) (v := k0) rfl rfl ?_
        refine o_iconst W7 (v := (1 : Int32)) own_d3_13 rfl (pc' := 14) rfl ?_
        refine o_iadd W7 own_d3_14 (pc' := 15) rfl ?_
        refine o_iastore W7 A_b0_7 g0 own_d3_15 (pc' := 16) rfl (i := 0) rfl (Nat.le_of_ble_eq_true rfl) ?_
        intro T8 h8 W8 K8 A_b0_8
        have A_b1_8 := A_b1_7.keep1 K8 ne_b1_b0
        have A_b0_8 : OA Z h8 b0 .int [(k0 + (1 : Int32)), (0 : Int32)] := A_b0_8
        have KK_K8 : Keep h0 h8 [b0] := (KK_K7).trans K8 (fun x hx => Or.inl hx)
        refine o_aloadN W8 own_d3_16 (v := (.ref b0)) rfl rfl (pc' := 17) rfl ?_
        refine o_iloadN W8 own_d3_17 (v := (0 : Int32)) rfl (pc' := 18) rfl ?_
        refine o_iaload W8 A_b0_8 own_d3_18 (pc' := 19) rfl (i := 0) (v := (k0 + (1 : Int32))) rfl rfl ?_
        refine o_aloadN W8 own_d3_19 (v := (.ref b1)) rfl rfl (pc' := 20) rfl ?_
        refine o_iloadN W8 own_d3_20 (v := (0 : Int32)) rfl (pc' := 21) rfl ?_
        refine o_iaload W8 A_b1_8 own_d3_21 (pc' := 22) rfl (i := 0) (v := t0) rfl rfl ?_
        refine o_icmp_ge W8 own_d3_22 (by decide) (pq := 27) (by decide) (pc' := 25) rfl (fun hc22 => ?_) (fun hc22 => ?_)
        · refine o_aloadN W8 own_d3_27 (v := (.ref b0)) rfl rfl (pc' := 28) rfl ?_
          refine o_iloadN W8 own_d3_28 (v := (0 : Int32)) rfl (pc' := 29) rfl ?_
          refine o_iconst W8 (v := (0 : Int32)) own_d3_29 rfl (pc' := 30) rfl ?_
          refine o_iastore W8 A_b0_8 g0 own_d3_30 (pc' := 31) rfl (i := 0) rfl (Nat.le_of_ble_eq_true rfl) ?_
          intro T9 h9 W9 K9 A_b0_9
          have A_b1_9 := A_b1_8.keep1 K9 ne_b1_b0
          have A_b0_9 : OA Z h9 b0 .int [(0 : Int32), (0 : Int32)] := A_b0_9
          have KK_K9 : Keep h0 h9 [b0] := (KK_K8).trans K9 (fun x hx => Or.inl hx)
          refine o_iinc W9 (x := (0 : Int32)) (L' := #[.val (.ref b0), .val (.ref b1), .val (.int ((0 : Int32) + (-1 : Int32)))]) own_d3_31 rfl rfl (pc' := 34) rfl ?_
          show OF _ _ _ _ _ _ _ T9 (mkF m 34 #[.val (.ref b0), .val (.ref b1), .val (.int (-1 : Int32))] [])
          refine o_goto W9 own_d3_34 (by decide) (pq := 5) (by decide) ?_
          refine o_iloadN W9 own_d3_5 (v := (-1 : Int32)) rfl (pc' := 6) rfl ?_
          refine o_if_lt W9 own_d3_6 (by decide) (pq := 37) (by decide) (pc' := 9) rfl (fun hc6 => ?_) (fun hc6 => ?_)
          · refine o_iconst W9 (v := (0 : Int32)) own_d3_37 rfl (pc' := 38) rfl ?_
            refine o_retN W9 (t := .boolean) rfl (by simp) own_d3_38 (by decide) (by decide) ?_
            exact ⟨_, rfl, KK_K9, Or.inr (Or.inr (⟨rfl, A_b0_9, by omega⟩))⟩
          · exact absurd hc6 (by decide)
        · refine o_iconst W8 (v := (1 : Int32)) own_d3_25 rfl (pc' := 26) rfl ?_
          refine o_retN W8 (t := .boolean) rfl (by simp) own_d3_26 (by decide) (by decide) ?_
          exact ⟨_, rfl, KK_K8, Or.inr (Or.inl (⟨rfl, A_b0_8, by omega⟩))⟩
    · refine o_iconst W6 (v := (1 : Int32)) own_d3_25 rfl (pc' := 26) rfl ?_
      refine o_retN W6 (t := .boolean) rfl (by simp) own_d3_26 (by decide) (by decide) ?_
      exact ⟨_, rfl, KK_K6, Or.inl (⟨rfl, A_b0_6, by omega⟩)⟩
theorem own_ef1_3 (m : MethodId) (z0 : Int32) (z1 : Addr) (z2 : Addr) : entryFrame m #[(.int z0), (.ref z1), (.ref z2)] 3 = mkF m 0 #[.val (.int z0), .val (.ref z1), .val (.ref z2)] [] := by first | (simp [entryFrame, mkF, argsToLocals, Value.category]; done) | rfl
theorem own_d1_36 : decode method_2_code 36 = .ok (.aload_n 1, 1) := by decide +kernel
theorem own_d1_37 : decode method_2_code 37 = .ok (.iconst 0, 1) := by decide +kernel
theorem own_d1_38 : decode method_2_code 38 = .ok (.iaload, 1) := by decide +kernel
theorem own_d1_39 : decode method_2_code 39 = .ok (.i2l, 1) := by decide +kernel
theorem own_d1_40 : decode method_2_code 40 = .ok (.aload_n 2, 1) := by decide +kernel
theorem own_d1_41 : decode method_2_code 41 = .ok (.iconst 1, 1) := by decide +kernel
theorem own_d1_42 : decode method_2_code 42 = .ok (.iaload, 1) := by decide +kernel
theorem own_d1_43 : decode method_2_code 43 = .ok (.i2l, 1) := by decide +kernel
theorem own_d1_44 : decode method_2_code 44 = .ok (.lmul, 1) := by decide +kernel
theorem own_d1_45 : decode method_2_code 45 = .ok (.aload_n 1, 1) := by decide +kernel
theorem own_d1_46 : decode method_2_code 46 = .ok (.iconst 1, 1) := by decide +kernel
theorem own_d1_47 : decode method_2_code 47 = .ok (.iaload, 1) := by decide +kernel
theorem own_d1_48 : decode method_2_code 48 = .ok (.i2l, 1) := by decide +kernel
theorem own_d1_49 : decode method_2_code 49 = .ok (.ladd, 1) := by decide +kernel
theorem own_d1_50 : decode method_2_code 50 = .ok (.aload_n 2, 1) := by decide +kernel
theorem own_d1_51 : decode method_2_code 51 = .ok (.iconst 2, 1) := by decide +kernel
theorem own_d1_52 : decode method_2_code 52 = .ok (.iaload, 1) := by decide +kernel
theorem own_d1_53 : decode method_2_code 53 = .ok (.i2l, 1) := by decide +kernel
theorem own_d1_54 : decode method_2_code 54 = .ok (.lmul, 1) := by decide +kernel
theorem own_d1_55 : decode method_2_code 55 = .ok (.aload_n 1, 1) := by decide +kernel
theorem own_d1_56 : decode method_2_code 56 = .ok (.iconst 2, 1) := by decide +kernel
theorem own_d1_57 : decode method_2_code 57 = .ok (.iaload, 1) := by decide +kernel
theorem own_d1_58 : decode method_2_code 58 = .ok (.i2l, 1) := by decide +kernel
theorem own_d1_59 : decode method_2_code 59 = .ok (.ladd, 1) := by decide +kernel
theorem own_d1_60 : decode method_2_code 60 = .ok (.lreturn, 1) := by decide +kernel
set_option maxRecDepth 65536 in
set_option maxHeartbeats 4000000 in
theorem rm1_3 (l : Launch) (Z : State) (a0 : Array Value) (hw : ∀ d ∈ tables_1, d.before a0 Z = true) (b0 b1 : Addr) (h0 : Heap) (n0 : Nat) (Z0 : n0 ≤ h0.size) (k0 k1 k2 : Int32) (t0 t1 t2 : Int32) (A0 : OA Z h0 b0 .int [k0, k1, k2]) (A1 : OA Z h0 b1 .int [t0, t1, t2]) :
    OCon l Z (⟨"com/example/private_knowledge_graphs/privateknowledgegraphs/release/CombinationsNextPinLaw", "rank", "(I[I[I)J"⟩ : MethodName) method_2_code 3 (some .long) [] ({ frames := 0, cells := 0, slots := 0, locals := 0 } : Room) #[(.int (3 : Int32)), (.ref b0), (.ref b1)] h0 n0 (QJ fun r h' => r = ((k0.toInt64 * t1.toInt64 + k1.toInt64) * t2.toInt64 + k2.toInt64) ∧ h0 = h') := by
  refine OCon.mk (plainFor_of_name own_pn0) Z0 ?_
  intro p e s m below meth cd s₁ W0
  refine OF.cast (own_ef1_3 m (3 : Int32) b0 b1) ?_
  have c_1___Int32_ : (1 : Int32).toInt = 1 := rfl
  have c_2___Int32_ : (2 : Int32).toInt = 2 := rfl
  have c_3___Int32_ : (3 : Int32).toInt = 3 := rfl
  refine o_iloadN W0 own_d1_0 (v := (3 : Int32)) rfl (pc' := 1) rfl ?_
  refine o_if_ne W0 own_d1_1 (by decide) (pq := 6) (by decide) (pc' := 4) rfl (fun hc1 => ?_) (fun hc1 => ?_)
  · refine o_iloadN W0 own_d1_6 (v := (3 : Int32)) rfl (pc' := 7) rfl ?_
    refine o_iconst W0 (v := (1 : Int32)) own_d1_7 rfl (pc' := 8) rfl ?_
    refine o_icmp_ne W0 own_d1_8 (by decide) (pq := 16) (by decide) (pc' := 11) rfl (fun hc8 => ?_) (fun hc8 => ?_)
    · refine o_iloadN W0 own_d1_16 (v := (3 : Int32)) rfl (pc' := 17) rfl ?_
      refine o_iconst W0 (v := (2 : Int32)) own_d1_17 rfl (pc' := 18) rfl ?_
      refine o_icmp_ne W0 own_d1_18 (by decide) (pq := 36) (by decide) (pc' := 21) rfl (fun hc18 => ?_) (fun hc18 => ?_)
      · refine o_aloadN W0 own_d1_36 (v := (.ref b0)) rfl rfl (pc' := 37) rfl ?_
        refine o_iconst W0 (v := (0 : Int32)) own_d1_37 rfl (pc' := 38) rfl ?_
        refine o_iaload W0 A0 own_d1_38 (pc' := 39) rfl (i := 0) (v := k0) rfl rfl ?_
        refine o_i2l W0 own_d1_39 (pc' := 40) rfl ?_
        refine o_aloadN W0 own_d1_40 (v := (.ref b1)) rfl rfl (pc' := 41) rfl ?_
        refine o_iconst W0 (v := (1 : Int32)) own_d1_41 rfl (pc' := 42) rfl ?_
        refine o_iaload W0 A1 own_d1_42 (pc' := 43) rfl (i := 1) (v := t1) rfl rfl ?_
        refine o_i2l W0 own_d1_43 (pc' := 44) rfl ?_
        refine o_lmul W0 own_d1_44 (pc' := 45) rfl ?_
        refine o_aloadN W0 own_d1_45 (v := (.ref b0)) rfl rfl (pc' := 46) rfl ?_
        refine o_iconst W0 (v := (1 : Int32)) own_d1_46 rfl (pc' := 47) rfl ?_
        refine o_iaload W0 A0 own_d1_47 (pc' := 48) rfl (i := 1) (v := k1) rfl rfl ?_
        refine o_i2l W0 own_d1_48 (pc' := 49) rfl ?_
        refine o_ladd W0 own_d1_49 (pc' := 50) rfl ?_
        refine o_aloadN W0 own_d1_50 (v := (.ref b1)) rfl rfl (pc' := 51) rfl ?_
        refine o_iconst W0 (v := (2 : Int32)) own_d1_51 rfl (pc' := 52) rfl ?_
        refine o_iaload W0 A1 own_d1_52 (pc' := 53) rfl (i := 2) (v := t2) rfl rfl ?_
        refine o_i2l W0 own_d1_53 (pc' := 54) rfl ?_
        refine o_lmul W0 own_d1_54 (pc' := 55) rfl ?_
        refine o_aloadN W0 own_d1_55 (v := (.ref b0)) rfl rfl (pc' := 56) rfl ?_
        refine o_iconst W0 (v := (2 : Int32)) own_d1_56 rfl (pc' := 57) rfl ?_
        refine o_iaload W0 A0 own_d1_57 (pc' := 58) rfl (i := 2) (v := k2) rfl rfl ?_
        refine o_i2l W0 own_d1_58 (pc' := 59) rfl ?_
        refine o_ladd W0 own_d1_59 (pc' := 60) rfl ?_
        refine o_retJ W0 rfl own_d1_60 (by decide) (by decide) ?_
        exact ⟨_, rfl, rfl, rfl⟩
      · exact absurd hc18 (by decide)
    · exact absurd hc8 (by decide)
  · exact absurd hc1 (by decide)
theorem own_ef2_3 (m : MethodId) (z0 : Int32) (z1 : Addr) : entryFrame m #[(.int z0), (.ref z1)] 4 = mkF m 0 #[.val (.int z0), .val (.ref z1), .unset, .unset] [] := by first | (simp [entryFrame, mkF, argsToLocals, Value.category]; done) | rfl
theorem own_d2_30 : decode method_3_code 30 = .ok (.lload_n 2, 1) := by decide +kernel
theorem own_d2_31 : decode method_3_code 31 = .ok (.aload_n 1, 1) := by decide +kernel
theorem own_d2_32 : decode method_3_code 32 = .ok (.iconst 2, 1) := by decide +kernel
theorem own_d2_33 : decode method_3_code 33 = .ok (.iaload, 1) := by decide +kernel
theorem own_d2_34 : decode method_3_code 34 = .ok (.i2l, 1) := by decide +kernel
theorem own_d2_35 : decode method_3_code 35 = .ok (.lmul, 1) := by decide +kernel
theorem own_d2_36 : decode method_3_code 36 = .ok (.lstore_n 2, 1) := by decide +kernel
set_option maxRecDepth 65536 in
set_option maxHeartbeats 4000000 in
theorem rm2_3 (l : Launch) (Z : State) (a0 : Array Value) (hw : ∀ d ∈ tables_1, d.before a0 Z = true) (b0 : Addr) (h0 : Heap) (n0 : Nat) (Z0 : n0 ≤ h0.size) (t0 t1 t2 : Int32) (A0 : OA Z h0 b0 .int [t0, t1, t2]) :
    OCon l Z (⟨"com/example/private_knowledge_graphs/privateknowledgegraphs/release/CombinationsNextPinLaw", "total", "(I[I)J"⟩ : MethodName) method_3_code 4 (some .long) [] ({ frames := 0, cells := 0, slots := 0, locals := 0 } : Room) #[(.int (3 : Int32)), (.ref b0)] h0 n0 (QJ fun r h' => r = ((((1 : Int64) * t0.toInt64) * t1.toInt64) * t2.toInt64) ∧ h0 = h') := by
  refine OCon.mk (plainFor_of_name own_pn0) Z0 ?_
  intro p e s m below meth cd s₁ W0
  refine OF.cast (own_ef2_3 m (3 : Int32) b0) ?_
  have c_1___Int32_ : (1 : Int32).toInt = 1 := rfl
  have c_2___Int32_ : (2 : Int32).toInt = 2 := rfl
  have c_3___Int32_ : (3 : Int32).toInt = 3 := rfl
  refine o_lconst W0 (v := (1 : Int64)) own_d2_0 rfl (pc' := 1) rfl ?_
  refine o_lstoreN W0 (L' := #[.val (.int (3 : Int32)), .val (.ref b0), .val (.long (1 : Int64)), .second]) own_d2_1 rfl (pc' := 2) rfl ?_
  refine o_iloadN W0 own_d2_2 (v := (3 : Int32)) rfl (pc' := 3) rfl ?_
  refine o_if_le W0 own_d2_3 (by decide) (pq := 13) (by decide) (pc' := 6) rfl (fun hc3 => ?_) (fun hc3 => ?_)
  · exact absurd hc3 (by decide)
  · refine o_lloadN W0 own_d2_6 (v := (1 : Int64)) rfl (pc' := 7) rfl ?_
    refine o_aloadN W0 own_d2_7 (v := (.ref b0)) rfl rfl (pc' := 8) rfl ?_
    refine o_iconst W0 (v := (0 : Int32)) own_d2_8 rfl (pc' := 9) rfl ?_
    refine o_iaload W0 A0 own_d2_9 (pc' := 10) rfl (i := 0) (v := t0) rfl rfl ?_
    refine o_i2l W0 own_d2_10 (pc' := 11) rfl ?_
    refine o_lmul W0 own_d2_11 (pc' := 12) rfl ?_
    refine o_lstoreN W0 (L' := #[.val (.int (3 : Int32)), .val (.ref b0), .val (.long ((1 : Int64) * (t0.toInt64))), .second]) own_d2_12 rfl (pc' := 13) rfl ?_
    refine o_iloadN W0 own_d2_13 (v := (3 : Int32)) rfl (pc' := 14) rfl ?_
    refine o_iconst W0 (v := (1 : Int32)) own_d2_14 rfl (pc' := 15) rfl ?_
    refine o_icmp_le W0 own_d2_15 (by decide) (pq := 25) (by decide) (pc' := 18) rfl (fun hc15 => ?_) (fun hc15 => ?_)
    · exact absurd hc15 (by decide)
    · refine o_lloadN W0 own_d2_18 (v := ((1 : Int64) * (t0.toInt64))) rfl (pc' := 19) rfl ?_
      refine o_aloadN W0 own_d2_19 (v := (.ref b0)) rfl rfl (pc' := 20) rfl ?_
      refine o_iconst W0 (v := (1 : Int32)) own_d2_20 rfl (pc' := 21) rfl ?_
      refine o_iaload W0 A0 own_d2_21 (pc' := 22) rfl (i := 1) (v := t1) rfl rfl ?_
      refine o_i2l W0 own_d2_22 (pc' := 23) rfl ?_
      refine o_lmul W0 own_d2_23 (pc' := 24) rfl ?_
      refine o_lstoreN W0 (L' := #[.val (.int (3 : Int32)), .val (.ref b0), .val (.long (((1 : Int64) * (t0.toInt64)) * (t1.toInt64))), .second]) own_d2_24 rfl (pc' := 25) rfl ?_
      refine o_iloadN W0 own_d2_25 (v := (3 : Int32)) rfl (pc' := 26) rfl ?_
      refine o_iconst W0 (v := (2 : Int32)) own_d2_26 rfl (pc' := 27) rfl ?_
      refine o_icmp_le W0 own_d2_27 (by decide) (pq := 37) (by decide) (pc' := 30) rfl (fun hc27 => ?_) (fun hc27 => ?_)
      · exact absurd hc27 (by decide)
      · refine o_lloadN W0 own_d2_30 (v := (((1 : Int64) * (t0.toInt64)) * (t1.toInt64))) rfl (pc' := 31) rfl ?_
        refine o_aloadN W0 own_d2_31 (v := (.ref b0)) rfl rfl (pc' := 32) rfl ?_
        refine o_iconst W0 (v := (2 : Int32)) own_d2_32 rfl (pc' := 33) rfl ?_
        refine o_iaload W0 A0 own_d2_33 (pc' := 34) rfl (i := 2) (v := t2) rfl rfl ?_
        refine o_i2l W0 own_d2_34 (pc' := 35) rfl ?_
        refine o_lmul W0 own_d2_35 (pc' := 36) rfl ?_
        refine o_lstoreN W0 (L' := #[.val (.int (3 : Int32)), .val (.ref b0), .val (.long ((((1 : Int64) * (t0.toInt64)) * (t1.toInt64)) * (t2.toInt64))), .second]) own_d2_36 rfl (pc' := 37) rfl ?_
        refine o_lloadN W0 own_d2_37 (v := ((((1 : Int64) * (t0.toInt64)) * (t1.toInt64)) * (t2.toInt64))) rfl (pc' := 38) rfl ?_
        refine o_retJ W0 rfl own_d2_38 (by decide) (by decide) ?_
        exact ⟨_, rfl, rfl, rfl⟩
theorem own_ef3_3 (m : MethodId) (z0 : Addr) (z1 : Addr) : entryFrame m #[(.ref z0), (.ref z1)] 3 = mkF m 0 #[.val (.ref z0), .val (.ref z1), .unset] [] := by first | (simp [entryFrame, mkF, argsToLocals, Value.category]; done) | rfl
set_option maxRecDepth 65536 in
set_option maxHeartbeats 4000000 in
theorem rm3_3 (l : Launch) (Z : State) (a0 : Array Value) (hw : ∀ d ∈ tables_1, d.before a0 Z = true) (b0 : Addr) (b1 : Addr) (h0 : Heap) (n0 : Nat) (Z0 : n0 ≤ h0.size) (k0 k1 k2 : Int32) (t0 t1 t2 : Int32) (A0 : OA Z h0 b0 .int [k0, k1, k2]) (A1 : OA Z h0 b1 .int [t0, t1, t2]) (g0 : n0 ≤ b0) (ne_b1_b0 : b1 ≠ b0) :
    OCon l Z (⟨"com/example/private_knowledge_graphs/privateknowledgegraphs/release/Combinations", "next", "([I[I)Z"⟩ : MethodName) prog_21_method_2_code 3 (some .boolean) [] ({ frames := 0, cells := 0, slots := 0, locals := 0 } : Room) #[(.ref b0), (.ref b1)] h0 n0 (QI fun r h' => Keep h0 h' [b0] ∧ ((r = 1 ∧ OA Z h' b0 .int [k0, k1, (k2 + 1)] ∧ (k2 + 1).toInt < t2.toInt) ∨ (r = 1 ∧ OA Z h' b0 .int [k0, (k1 + 1), 0] ∧ t2.toInt ≤ (k2 + 1).toInt ∧ (k1 + 1).toInt < t1.toInt) ∨ (r = 1 ∧ OA Z h' b0 .int [(k0 + 1), 0, 0] ∧ t1.toInt ≤ (k1 + 1).toInt ∧ t2.toInt ≤ (k2 + 1).toInt ∧ (k0 + 1).toInt < t0.toInt) ∨ (r = 0 ∧ OA Z h' b0 .int [0, 0, 0] ∧ t0.toInt ≤ (k0 + 1).toInt ∧ t1.toInt ≤ (k1 + 1).toInt ∧ t2.toInt ≤ (k2 + 1).toInt))) := by
  refine OCon.mk (plainFor_of_name own_pn1) Z0 ?_
  intro p e s m below meth cd s₁ W0
  refine OF.cast (own_ef3_3 m b0 b1) ?_
  refine o_aloadN W0 own_d3_0 (v := (.ref b0)) rfl rfl (pc' := 1) rfl ?_
  refine o_arraylength W0 A0 own_d3_1 (pc' := 2) rfl ?_
  intro v10 hv10
  obtain rfl : v10 = (3 : Int32) := o_eq (y := (3 : Int32)) hv10
  refine o_iconst W0 (v := (1 : Int32)) own_d3_2 rfl (pc' := 3) rfl ?_
  refine o_isub W0 own_d3_3 (pc' := 4) rfl ?_
  show OF _ _ _ _ _ _ _ s₁ (mkF m 4 #[.val (.ref b0), .val (.ref b1), .unset] [(.int (2 : Int32))])
  refine o_istoreN W0 (L' := #[.val (.ref b0), .val (.ref b1), .val (.int (2 : Int32))]) own_d3_4 rfl (pc' := 5) rfl ?_
  refine o_iloadN W0 own_d3_5 (v := (2 : Int32)) rfl (pc' := 6) rfl ?_
  refine o_if_lt W0 own_d3_6 (by decide) (pq := 37) (by decide) (pc' := 9) rfl (fun hc6 => ?_) (fun hc6 => ?_)
  · exact absurd hc6 (by decide)
  · refine o_aloadN W0 own_d3_9 (v := (.ref b0)) rfl rfl (pc' := 10) rfl ?_
    refine o_iloadN W0 own_d3_10 (v := (2 : Int32)) rfl (pc' := 11) rfl ?_
    refine o_dup2 W0 own_d3_11 rfl rfl (pc' := 12) rfl ?_
    refine o_iaload W0 A0 own_d3_12 (pc' := 13) rfl (i := 2) (v := k2) rfl rfl ?_
    refine o_iconst W0 (v := (1 : Int32)) own_d3_13 rfl (pc' := 14) rfl ?_
    refine o_iadd W0 own_d3_14 (pc' := 15) rfl ?_
    refine o_iastore W0 A0 g0 own_d3_15 (pc' := 16) rfl (i := 2) rfl (Nat.le_of_ble_eq_true rfl) ?_
    intro T11 h11 W11 K11 A_b0_11
    have A_b1_11 := A1.keep1 K11 ne_b1_b0
    have A_b0_11 : OA Z h11 b0 .int [k0, k1, (k2 + (1 : Int32))] := A_b0_11
    have KK_K11 : Keep h0 h11 [b0] := (Keep.refl _ _).trans K11 (fun x hx => Or.inl hx)
    refine o_aloadN W11 own_d3_16 (v := (.ref b0)) rfl rfl (pc' := 17) rfl ?_
    refine o_iloadN W11 own_d3_17 (v := (2 : Int32)) rfl (pc' := 18) rfl ?_
    refine o_iaload W11 A_b0_11 own_d3_18 (pc' := 19) rfl (i := 2) (v := (k2 + (1 : Int32))) rfl rfl ?_
    refine o_aloadN W11 own_d3_19 (v := (.ref b1)) rfl rfl (pc' := 20) rfl ?_
    refine o_iloadN W11 own_d3_20 (v := (2 : Int32)) rfl (pc' := 21) rfl ?_
    refine o_iaload W11 A_b1_11 own_d3_21 (pc' := 22) rfl (i := 2) (v := t2) rfl rfl ?_
    refine o_icmp_ge W11 own_d3_22 (by decide) (pq := 27) (by decide) (pc' := 25) rfl (fun hc22 => ?_) (fun hc22 => ?_)
    · refine o_aloadN W11 own_d3_27 (v := (.ref b0)) rfl rfl (pc' := 28) rfl ?_
      refine o_iloadN W11 own_d3_28 (v := (2 : Int32)) rfl (pc' := 29) rfl ?_
      refine o_iconst W11 (v := (0 : Int32)) own_d3_29 rfl (pc' := 30) rfl ?_
      refine o_iastore W11 A_b0_11 g0 own_d3_30 (pc' := 31) rfl (i := 2) rfl (Nat.le_of_ble_eq_true rfl) ?_
      intro T12 h12 W12 K12 A_b0_12
      have A_b1_12 := A_b1_11.keep1 K12 ne_b1_b0
      have A_b0_12 : OA Z h12 b0 .int [k0, k1, (0 : Int32)] := A_b0_12
      have KK_K12 : Keep h0 h12 [b0] := (KK_K11).trans K12 (fun x hx => Or.inl hx)
      refine o_iinc W12 (x := (2 : Int32)) (L' := #[.val (.ref b0), .val (.ref b1), .val (.int ((2 : Int32) + (-1 : Int32)))]) own_d3_31 rfl rfl (pc' := 34) rfl ?_
      show OF _ _ _ _ _ _ _ T12 (mkF m 34 #[.val (.ref b0), .val (.ref b1), .val (.int (1 : Int32))] [])
      refine o_goto W12 own_d3_34 (by decide) (pq := 5) (by decide) ?_
      refine o_iloadN W12 own_d3_5 (v := (1 : Int32)) rfl (pc' := 6) rfl ?_
      refine o_if_lt W12 own_d3_6 (by decide) (pq := 37) (by decide) (pc' := 9) rfl (fun hc6 => ?_) (fun hc6 => ?_)
      · exact absurd hc6 (by decide)
      · refine o_aloadN W12 own_d3_9 (v := (.ref b0)) rfl rfl (pc' := 10) rfl ?_
        refine o_iloadN W12 own_d3_10 (v := (1 : Int32)) rfl (pc' := 11) rfl ?_
        refine o_dup2 W12 own_d3_11 rfl rfl (pc' := 12) rfl ?_
        refine o_iaload W12 A_b0_12 own_d3_12 (pc' := 13) rfl (i := 1) (v := k1) rfl rfl ?_
        refine o_iconst W12 (v := (1 : Int32)) own_d3_13 rfl (pc' := 14) rfl ?_
        refine o_iadd W12 own_d3_14 (pc' := 15) rfl ?_
        refine o_iastore W12 A_b0_12 g0 own_d3_15 (pc' := 16) rfl (i := 1) rfl (Nat.le_of_ble_eq_true rfl) ?_
        intro T13 h13 W13 K13 A_b0_13
        have A_b1_13 := A_b1_12.keep1 K13 ne_b1_b0
        have A_b0_13 : OA Z h13 b0 .int [k0, (k1 + (1 : Int32)), (0 : Int32)] := A_b0_13
        have KK_K13 : Keep h0 h13 [b0] := (KK_K12).trans K13 (fun x hx => Or.inl hx)
        refine o_aloadN W13 own_d3_16 (v := (.ref b0)) rfl rfl (pc' := 17) rfl ?_
        refine o_iloadN W13 own_d3_17 (v := (1 : Int32)) rfl (pc' := 18) rfl ?_
        refine o_iaload W13 A_b0_13 own_d3_18 (pc' := 19) rfl (i := 1) (v := (k1 + (1 : Int32))) rfl rfl ?_
        refine o_aloadN W13 own_d3_19 (v := (.ref b1)) rfl rfl (pc' := 20) rfl ?_
        refine o_iloadN W13 own_d3_20 (v := (1 : Int32)) rfl (pc' := 21) rfl ?_
        refine o_iaload W13 A_b1_13 own_d3_21 (pc' := 22) rfl (i := 1) (v := t1) rfl rfl ?_
        refine o_icmp_ge W13 own_d3_22 (by decide) (pq := 27) (by decide) (pc' := 25) rfl (fun hc22 => ?_) (fun hc22 => ?_)
        · refine o_aloadN W13 own_d3_27 (v := (.ref b0)) rfl rfl (pc' := 28) rfl ?_
          refine o_iloadN W13 own_d3_28 (v := (1 : Int32)) rfl (pc' := 29) rfl ?_
          refine o_iconst W13 (v := (0 : Int32)) own_d3_29 rfl (pc' := 30) rfl ?_
          refine o_iastore W13 A_b0_13 g0 own_d3_30 (pc' := 31) rfl (i := 1) rfl (Nat.le_of_ble_eq_true rfl) ?_
          intro T14 h14 W14 K14 A_b0_14
          have A_b1_14 := A_b1_13.keep1 K14 ne_b1_b0
          have A_b0_14 : OA Z h14 b0 .int [k0, (0 : Int32), (0 : Int32)] := A_b0_14
          have KK_K14 : Keep h0 h14 [b0] := (KK_K13).trans K14 (fun x hx => Or.inl hx)
          refine o_iinc W14 (x := (1 : Int32)) (L' := #[.val (.ref b0), .val (.ref b1), .val (.int ((1 : Int32) + (-1 : Int32)))]) own_d3_31 rfl rfl (pc' := 34) rfl ?_
          show OF _ _ _ _ _ _ _ T14 (mkF m 34 #[.val (.ref b0), .val (.ref b1), .val (.int (0 : Int32))] [])
          refine o_goto W14 own_d3_34 (by decide) (pq := 5) (by decide) ?_
          refine o_iloadN W14 own_d3_5 (v := (0 : Int32)) rfl (pc' := 6) rfl ?_
          refine o_if_lt W14 own_d3_6 (by decide) (pq := 37) (by decide) (pc' := 9) rfl (fun hc6 => ?_) (fun hc6 => ?_)
          · exact absurd hc6 (by decide)
          · refine o_aloadN W14 own_d3_9 (v := (.ref b0)) rfl rfl (pc' := 10) rfl ?_
            refine o_iloadN W14 own_d3_10 (v := (0 : Int32)) rfl (pc' := 11) rfl ?_
            refine o_dup2 W14 own_d3_11 rfl rfl (pc' := 12) rfl ?_
            refine o_iaload W14 A_b0_14 own_d3_12 (pc' := 13) rfl (i := 0) (v := k0) rfl rfl ?_
            refine o_iconst W14 (v := (1 : Int32)) own_d3_13 rfl (pc' := 14) rfl ?_
            refine o_iadd W14 own_d3_14 (pc' := 15) rfl ?_
            refine o_iastore W14 A_b0_14 g0 own_d3_15 (pc' := 16) rfl (i := 0) rfl (Nat.le_of_ble_eq_true rfl) ?_
            intro T15 h15 W15 K15 A_b0_15
            have A_b1_15 := A_b1_14.keep1 K15 ne_b1_b0
            have A_b0_15 : OA Z h15 b0 .int [(k0 + (1 : Int32)), (0 : Int32), (0 : Int32)] := A_b0_15
            have KK_K15 : Keep h0 h15 [b0] := (KK_K14).trans K15 (fun x hx => Or.inl hx)
            refine o_aloadN W15 own_d3_16 (v := (.ref b0)) rfl rfl (pc' := 17) rfl ?_
            refine o_iloadN W15 own_d3_17 (v := (0 : Int32)) rfl (pc' := 18) rfl ?_
            refine o_iaload W15 A_b0_15 own_d3_18 (pc' := 19) rfl (i := 0) (v := (k0 + (1 : Int32))) rfl rfl ?_
            refine o_aloadN W15 own_d3_19 (v := (.ref b1)) rfl rfl (pc' := 20) rfl ?_
            refine o_iloadN W15 own_d3_20 (v := (0 : Int32)) rfl (pc' := 21) rfl ?_
            refine o_iaload W15 A_b1_15 own_d3_21 (pc' := 22) rfl (i := 0) (v := t0) rfl rfl ?_
            refine o_icmp_ge W15 own_d3_22 (by decide) (pq := 27) (by decide) (pc' := 25) rfl (fun hc22 => ?_) (fun hc22 => ?_)
            · refine o_aloadN W15 own_d3_27 (v := (.ref b0)) rfl rfl (pc' := 28) rfl ?_
              refine o_iloadN W15 own_d3_28 (v := (0 : Int32)) rfl (pc' := 29) rfl ?_
              refine o_iconst W15 (v := (0 : Int32)) own_d3_29 rfl (pc' := 30) rfl ?_
              refine o_iastore W15 A_b0_15 g0 own_d3_30 (pc' := 31) rfl (i := 0) rfl (Nat.le_of_ble_eq_true rfl) ?_
              intro T16 h16 W16 K16 A_b0_16
              have A_b1_16 := A_b1_15.keep1 K16 ne_b1_b0
              have A_b0_16 : OA Z h16 b0 .int [(0 : Int32), (0 : Int32), (0 : Int32)] := A_b0_16
              have KK_K16 : Keep h0 h16 [b0] := (KK_K15).trans K16 (fun x hx => Or.inl hx)
              refine o_iinc W16 (x := (0 : Int32)) (L' := #[.val (.ref b0), .val (.ref b1), .val (.int ((0 : Int32) + (-1 : Int32)))]) own_d3_31 rfl rfl (pc' := 34) rfl ?_
              show OF _ _ _ _ _ _ _ T16 (mkF m 34 #[.val (.ref b0), .val (.ref b1), .val (.int (-1 : Int32))] [])
              refine o_goto W16 own_d3_34 (by decide) (pq := 5) (by decide) ?_
              refine o_iloadN W16 own_d3_5 (v := (-1 : Int32)) rfl (pc' := 6) rfl ?_
              refine o_if_lt W16 own_d3_6 (by decide) (pq := 37) (by decide) (pc' := 9) rfl (fun hc6 => ?_) (fun hc6 => ?_)
              · refine o_iconst W16 (v := (0 : Int32)) own_d3_37 rfl (pc' := 38) rfl ?_
                refine o_retN W16 (t := .boolean) rfl (by simp) own_d3_38 (by decide) (by decide) ?_
                exact ⟨_, rfl, KK_K16, Or.inr (Or.inr (Or.inr (⟨rfl, A_b0_16, by omega⟩)))⟩
              · exact absurd hc6 (by decide)
            · refine o_iconst W15 (v := (1 : Int32)) own_d3_25 rfl (pc' := 26) rfl ?_
              refine o_retN W15 (t := .boolean) rfl (by simp) own_d3_26 (by decide) (by decide) ?_
              exact ⟨_, rfl, KK_K15, Or.inr (Or.inr (Or.inl (⟨rfl, A_b0_15, by omega⟩)))⟩
        · refine o_iconst W13 (v := (1 : Int32)) own_d3_25 rfl (pc' := 26) rfl ?_
          refine o_retN W13 (t := .boolean) rfl (by simp) own_d3_26 (by decide) (by decide) ?_
          exact ⟨_, rfl, KK_K13, Or.inr (Or.inl (⟨rfl, A_b0_13, by omega⟩))⟩
    · refine o_iconst W11 (v := (1 : Int32)) own_d3_25 rfl (pc' := 26) rfl ?_
      refine o_retN W11 (t := .boolean) rfl (by simp) own_d3_26 (by decide) (by decide) ?_
      exact ⟨_, rfl, KK_K11, Or.inl (⟨rfl, A_b0_11, by omega⟩)⟩
theorem own_ef4 (m : MethodId) (z0 : Int32) (z1 : Int32) : entryFrame m #[(.int z0), (.int z1)] 2 = mkF m 0 #[.val (.int z0), .val (.int z1)] [] := by first | (simp [entryFrame, mkF, argsToLocals, Value.category]; done) | rfl
theorem own_d4_0 : decode method_4_code 0 = .ok (.iload_n 0, 1) := by decide +kernel
theorem own_d4_1 : decode method_4_code 1 = .ok (.ifCond .lt 12, 3) := by decide +kernel
theorem own_d4_13 : decode method_4_code 13 = .ok (.iconst 0, 1) := by decide +kernel
theorem own_d4_14 : decode method_4_code 14 = .ok (.ireturn, 1) := by decide +kernel
theorem own_d4_4 : decode method_4_code 4 = .ok (.iload_n 0, 1) := by decide +kernel
theorem own_d4_5 : decode method_4_code 5 = .ok (.iload_n 1, 1) := by decide +kernel
theorem own_d4_6 : decode method_4_code 6 = .ok (.if_icmp .ge 7, 3) := by decide +kernel
theorem own_d4_9 : decode method_4_code 9 = .ok (.iconst 1, 1) := by decide +kernel
theorem own_d4_10 : decode method_4_code 10 = .ok (.goto 4, 3) := by decide +kernel
set_option maxRecDepth 65536 in
set_option maxHeartbeats 4000000 in
theorem rm4 (l : Launch) (Z : State) (a0 : Array Value) (hw : ∀ d ∈ tables_1, d.before a0 Z = true) (y0 : Int32) (y1 : Int32) (h0 : Heap) (n0 : Nat) (Z0 : n0 ≤ h0.size) :
    OCon l Z (⟨"com/example/private_knowledge_graphs/privateknowledgegraphs/release/CombinationsNextPinLaw", "ok", "(II)Z"⟩ : MethodName) method_4_code 2 (some .boolean) [] ({ frames := 0, cells := 0, slots := 0, locals := 0 } : Room) #[(.int y0), (.int y1)] h0 n0 (QI fun r h' => ((r = 1 ∧ (0 ≤ y0.toInt ∧ y0.toInt < y1.toInt)) ∨ (r = 0 ∧ ¬ (0 ≤ y0.toInt ∧ y0.toInt < y1.toInt))) ∧ h0 = h') := by
  refine OCon.mk (plainFor_of_name own_pn0) Z0 ?_
  intro p e s m below meth cd s₁ W0
  refine OF.cast (own_ef4 m y0 y1) ?_
  refine o_iloadN W0 own_d4_0 (v := y0) rfl (pc' := 1) rfl ?_
  refine o_if_lt W0 own_d4_1 (by decide) (pq := 13) (by decide) (pc' := 4) rfl (fun hc1 => ?_) (fun hc1 => ?_)
  · refine o_iconst W0 (v := (0 : Int32)) own_d4_13 rfl (pc' := 14) rfl ?_
    refine o_retN W0 (t := .boolean) rfl (by simp) own_d4_14 (by decide) (by decide) ?_
    exact ⟨(0 : Int32), rfl, Or.inr ⟨rfl, by omega⟩, rfl⟩
  · refine o_iloadN W0 own_d4_4 (v := y0) rfl (pc' := 5) rfl ?_
    refine o_iloadN W0 own_d4_5 (v := y1) rfl (pc' := 6) rfl ?_
    refine o_icmp_ge W0 own_d4_6 (by decide) (pq := 13) (by decide) (pc' := 9) rfl (fun hc6 => ?_) (fun hc6 => ?_)
    · refine o_iconst W0 (v := (0 : Int32)) own_d4_13 rfl (pc' := 14) rfl ?_
      refine o_retN W0 (t := .boolean) rfl (by simp) own_d4_14 (by decide) (by decide) ?_
      exact ⟨(0 : Int32), rfl, Or.inr ⟨rfl, by omega⟩, rfl⟩
    · refine o_iconst W0 (v := (1 : Int32)) own_d4_9 rfl (pc' := 10) rfl ?_
      refine o_goto W0 own_d4_10 (by decide) (pq := 14) (by decide) ?_
      refine o_retN W0 (t := .boolean) rfl (by simp) own_d4_14 (by decide) (by decide) ?_
      exact ⟨(1 : Int32), rfl, Or.inl ⟨rfl, by omega⟩, rfl⟩
theorem own_ef0 (m : MethodId) (z0 : Int32) (z1 : Int32) (z2 : Int32) (z3 : Int32) : entryFrame m #[(.int z0), (.int z1), (.int z2), (.int z3)] maxLocals = mkF m 0 #[.val (.int z0), .val (.int z1), .val (.int z2), .val (.int z3), .unset, .unset, .unset, .unset, .unset, .unset, .unset, .unset, .unset, .unset, .unset, .unset, .unset, .unset, .unset, .unset] [] := by first | (simp [entryFrame, mkF, argsToLocals, Value.category, maxLocals]; done) | rfl
theorem own_pd0 : parseMethodDescriptor "(I[I[I)J" = some ⟨[.int, (.array .int), (.array .int)], some .long⟩ := by decide +kernel
theorem own_pd1 : parseMethodDescriptor "(I[I)J" = some ⟨[.int, (.array .int)], some .long⟩ := by decide +kernel
theorem own_pd2 : parseMethodDescriptor "([I[I)Z" = some ⟨[(.array .int), (.array .int)], some .boolean⟩ := by decide +kernel
theorem own_pd3 : parseMethodDescriptor "(II)Z" = some ⟨[.int, .int], some .boolean⟩ := by decide +kernel
set_option maxRecDepth 65536 in
set_option maxHeartbeats 4000000 in
theorem own_law (l : Launch) (Z : State) (a0 : Array Value) (hw : ∀ d ∈ tables_1, d.before a0 Z = true) (x0 : Int32) (x1 : Int32) (x2 : Int32) (x3 : Int32) (h0 : Heap) (n0 : Nat) (Z0 : n0 ≤ h0.size) :
    OCon l Z x code maxLocals ret tables_1 room_1 #[(.int x0), (.int x1), (.int x2), (.int x3)] h0 n0 (fun v _ => v = some (.int 1)) := by
  refine OCon.mk (plainFor_of_name own_pn0) Z0 ?_
  intro p e s m below meth cd s₁ W0
  refine OF.cast (own_ef0 m x0 x1 x2 x3) ?_
  refine o_iloadN W0 at_0 (v := x0) rfl (pc' := 1) rfl ?_
  refine o_iconst W0 (v := (3 : Int32)) at_1 rfl (pc' := 2) rfl ?_
  refine o_iand W0 at_2 (pc' := 3) rfl ?_
  refine o_istoreG W0 (Lf := fun v17 => #[.val (.int x0), .val (.int x1), .val (.int x2), .val (.int x3), .val (.int v17), .unset, .unset, .unset, .unset, .unset, .unset, .unset, .unset, .unset, .unset, .unset, .unset, .unset, .unset, .unset]) at_3 rfl (pc' := 5) rfl ?_
  intro v17 hv17
  refine o_iloadN W0 at_5 (v := x1) rfl (pc' := 6) rfl ?_
  refine o_sipush W0 (v := (255 : Int32)) at_6 rfl (pc' := 9) rfl ?_
  refine o_iand W0 at_9 (pc' := 10) rfl ?_
  refine o_iconst W0 (v := (1 : Int32)) at_10 rfl (pc' := 11) rfl ?_
  refine o_iadd W0 at_11 (pc' := 12) rfl ?_
  refine o_istoreG W0 (Lf := fun v18 => #[.val (.int x0), .val (.int x1), .val (.int x2), .val (.int x3), .val (.int v17), .val (.int v18), .unset, .unset, .unset, .unset, .unset, .unset, .unset, .unset, .unset, .unset, .unset, .unset, .unset, .unset]) at_12 rfl (pc' := 14) rfl ?_
  intro v18 hv18
  have hl5 := own_lim x1
  rw [← hv18] at hl5
  refine o_iloadN W0 at_14 (v := x1) rfl (pc' := 15) rfl ?_
  refine o_bipush W0 (v := (8 : Int32)) at_15 rfl (pc' := 17) rfl ?_
  refine o_iushr W0 at_17 (pc' := 18) rfl ?_
  refine o_iload W0 at_18 (v := v18) rfl (pc' := 20) rfl ?_
  refine o_irem W0 at_20 (own_nzi (by omega)) (pc' := 21) rfl ?_
  refine o_istoreG W0 (Lf := fun v19 => #[.val (.int x0), .val (.int x1), .val (.int x2), .val (.int x3), .val (.int v17), .val (.int v18), .val (.int v19), .unset, .unset, .unset, .unset, .unset, .unset, .unset, .unset, .unset, .unset, .unset, .unset, .unset]) at_21 rfl (pc' := 23) rfl ?_
  intro v19 hv19
  have hg6 := own_dig x1 v18 (by omega)
  rw [← hv19] at hg6
  have hp6 : (v19 + 1).toInt = v19.toInt + 1 := by have c1 : (1 : Int32).toInt = 1 := rfl; rw [Jvm.Kit.i32_add (by omega) (by omega)]; omega
  refine o_iloadN W0 at_23 (v := x2) rfl (pc' := 24) rfl ?_
  refine o_sipush W0 (v := (255 : Int32)) at_24 rfl (pc' := 27) rfl ?_
  refine o_iand W0 at_27 (pc' := 28) rfl ?_
  refine o_iconst W0 (v := (1 : Int32)) at_28 rfl (pc' := 29) rfl ?_
  refine o_iadd W0 at_29 (pc' := 30) rfl ?_
  refine o_istoreG W0 (Lf := fun v20 => #[.val (.int x0), .val (.int x1), .val (.int x2), .val (.int x3), .val (.int v17), .val (.int v18), .val (.int v19), .val (.int v20), .unset, .unset, .unset, .unset, .unset, .unset, .unset, .unset, .unset, .unset, .unset, .unset]) at_30 rfl (pc' := 32) rfl ?_
  intro v20 hv20
  have hl7 := own_lim x2
  rw [← hv20] at hl7
  refine o_iloadN W0 at_32 (v := x2) rfl (pc' := 33) rfl ?_
  refine o_bipush W0 (v := (8 : Int32)) at_33 rfl (pc' := 35) rfl ?_
  refine o_iushr W0 at_35 (pc' := 36) rfl ?_
  refine o_iload W0 at_36 (v := v20) rfl (pc' := 38) rfl ?_
  refine o_irem W0 at_38 (own_nzi (by omega)) (pc' := 39) rfl ?_
  refine o_istoreG W0 (Lf := fun v21 => #[.val (.int x0), .val (.int x1), .val (.int x2), .val (.int x3), .val (.int v17), .val (.int v18), .val (.int v19), .val (.int v20), .val (.int v21), .unset, .unset, .unset, .unset, .unset, .unset, .unset, .unset, .unset, .unset, .unset]) at_39 rfl (pc' := 41) rfl ?_
  intro v21 hv21
  have hg8 := own_dig x2 v20 (by omega)
  rw [← hv21] at hg8
  have hp8 : (v21 + 1).toInt = v21.toInt + 1 := by have c1 : (1 : Int32).toInt = 1 := rfl; rw [Jvm.Kit.i32_add (by omega) (by omega)]; omega
  refine o_iloadN W0 at_41 (v := x3) rfl (pc' := 42) rfl ?_
  refine o_sipush W0 (v := (255 : Int32)) at_42 rfl (pc' := 45) rfl ?_
  refine o_iand W0 at_45 (pc' := 46) rfl ?_
  refine o_iconst W0 (v := (1 : Int32)) at_46 rfl (pc' := 47) rfl ?_
  refine o_iadd W0 at_47 (pc' := 48) rfl ?_
  refine o_istoreG W0 (Lf := fun v22 => #[.val (.int x0), .val (.int x1), .val (.int x2), .val (.int x3), .val (.int v17), .val (.int v18), .val (.int v19), .val (.int v20), .val (.int v21), .val (.int v22), .unset, .unset, .unset, .unset, .unset, .unset, .unset, .unset, .unset, .unset]) at_48 rfl (pc' := 50) rfl ?_
  intro v22 hv22
  have hl9 := own_lim x3
  rw [← hv22] at hl9
  refine o_iloadN W0 at_50 (v := x3) rfl (pc' := 51) rfl ?_
  refine o_bipush W0 (v := (8 : Int32)) at_51 rfl (pc' := 53) rfl ?_
  refine o_iushr W0 at_53 (pc' := 54) rfl ?_
  refine o_iload W0 at_54 (v := v22) rfl (pc' := 56) rfl ?_
  refine o_irem W0 at_56 (own_nzi (by omega)) (pc' := 57) rfl ?_
  refine o_istoreG W0 (Lf := fun v23 => #[.val (.int x0), .val (.int x1), .val (.int x2), .val (.int x3), .val (.int v17), .val (.int v18), .val (.int v19), .val (.int v20), .val (.int v21), .val (.int v22), .val (.int v23), .unset, .unset, .unset, .unset, .unset, .unset, .unset, .unset, .unset]) at_57 rfl (pc' := 59) rfl ?_
  intro v23 hv23
  have hg10 := own_dig x3 v22 (by omega)
  rw [← hv23] at hg10
  have hp10 : (v23 + 1).toInt = v23.toInt + 1 := by have c1 : (1 : Int32).toInt = 1 := rfl; rw [Jvm.Kit.i32_add (by omega) (by omega)]; omega
  have h4 := own_and3 x0
  rw [← hv17] at h4
  have c0 : (0 : Int32).toInt = 0 := rfl
  have c1 : (1 : Int32).toInt = 1 := rfl
  have d1 : (1 : Int64).toInt = 1 := rfl
  have d0 : (0 : Int64).toInt = 0 := rfl
  clear hv17
  rcases h4 with rfl | rfl | rfl | rfl
  · refine o_iload W0 at_59 (v := (0 : Int32)) rfl (pc' := 61) rfl ?_
    refine o_newarray W0 (ty := .int) (len := 0) (cap := 0) (ow hw 0 rfl) rfl rfl rfl at_61 (pc' := 63) rfl rfl (by decide) (by decide) (by decide) (by decide) (kk' := 1) rfl (nn' := 0) rfl ?_
    intro T25 h25 a24 W25 E25 g_a24 A_a24
    have b_a24 : n0 ≤ a24 := by rw [g_a24]; exact W0.le
    have A_a24 : OA Z h25 a24 .int [] := A_a24
    refine o_astore W25 (L' := #[.val (.int x0), .val (.int x1), .val (.int x2), .val (.int x3), .val (.int (0 : Int32)), .val (.int v18), .val (.int v19), .val (.int v20), .val (.int v21), .val (.int v22), .val (.int v23), .val (.ref a24), .unset, .unset, .unset, .unset, .unset, .unset, .unset, .unset]) at_63 rfl rfl (pc' := 65) rfl ?_
    refine o_iload W25 at_65 (v := (0 : Int32)) rfl (pc' := 67) rfl ?_
    refine o_newarray W25 (ty := .int) (len := 0) (cap := 0) (ow hw 0 rfl) rfl rfl rfl at_67 (pc' := 69) rfl rfl (by decide) (by decide) (by decide) (by decide) (kk' := 2) rfl (nn' := 0) rfl ?_
    intro T27 h27 a26 W27 E27 g_a26 A_a26
    have b_a26 : n0 ≤ a26 := by rw [g_a26]; exact W25.le
    have ne_a24_a26 : a24 ≠ a26 := Nat.ne_of_lt (Nat.lt_of_lt_of_le A_a24.lt (Nat.le_of_eq g_a26.symm))
    have A_a24_27 := A_a24.ext E27
    have A_a26 : OA Z h27 a26 .int [] := A_a26
    refine o_astore W27 (L' := #[.val (.int x0), .val (.int x1), .val (.int x2), .val (.int x3), .val (.int (0 : Int32)), .val (.int v18), .val (.int v19), .val (.int v20), .val (.int v21), .val (.int v22), .val (.int v23), .val (.ref a24), .val (.ref a26), .unset, .unset, .unset, .unset, .unset, .unset, .unset]) at_69 rfl rfl (pc' := 71) rfl ?_
    refine o_iload W27 at_71 (v := (0 : Int32)) rfl (pc' := 73) rfl ?_
    refine o_if_le W27 at_73 (by decide) (pq := 88) (by decide) (pc' := 76) rfl (fun hc73 => ?_) (fun hc73 => ?_)
    · refine o_iload W27 at_88 (v := (0 : Int32)) rfl (pc' := 90) rfl ?_
      refine o_iconst W27 (v := (1 : Int32)) at_90 rfl (pc' := 91) rfl ?_
      refine o_icmp_le W27 at_91 (by decide) (pq := 106) (by decide) (pc' := 94) rfl (fun hc91 => ?_) (fun hc91 => ?_)
      · refine o_iload W27 at_106 (v := (0 : Int32)) rfl (pc' := 108) rfl ?_
        refine o_iconst W27 (v := (2 : Int32)) at_108 rfl (pc' := 109) rfl ?_
        refine o_icmp_le W27 at_109 (by decide) (pq := 124) (by decide) (pc' := 112) rfl (fun hc109 => ?_) (fun hc109 => ?_)
        · refine o_iload W27 at_124 (v := (0 : Int32)) rfl (pc' := 126) rfl ?_
          refine o_aload W27 at_126 (v := (.ref a26)) rfl rfl (pc' := 128) rfl ?_
          refine o_aload W27 at_128 (v := (.ref a24)) rfl rfl (pc' := 130) rfl ?_
          refine o_callSJ W27 (rm1_0 l Z a0 hw a26 a24 h27 n0 W27.le  A_a26 A_a24_27) (ow hw 1 rfl) (ow hw 2 rfl) (ow hw 3 rfl) (ow hw 4 rfl) (by decide) (argsL := [(.int (0 : Int32)), (.ref a26), (.ref a24)]) (S := []) (lenOf own_pd0 rfl) rfl rfl rfl (wt := 0) rfl (by decide) (by decide) (by decide) (by decide) (kk' := 2) rfl (nn' := 0) rfl at_130 (pc' := 133) rfl ?_
          intro r28 T28 h28 W28 q28 z28
          obtain ⟨q28, rfl⟩ := q28
          have hb : r28.toInt = 0 := by rw [q28]; rfl
          refine o_lstore W28 (L' := #[.val (.int x0), .val (.int x1), .val (.int x2), .val (.int x3), .val (.int (0 : Int32)), .val (.int v18), .val (.int v19), .val (.int v20), .val (.int v21), .val (.int v22), .val (.int v23), .val (.ref a24), .val (.ref a26), .val (.long r28), .second, .unset, .unset, .unset, .unset, .unset]) at_133 rfl (pc' := 135) rfl ?_
          refine o_iload W28 at_135 (v := (0 : Int32)) rfl (pc' := 137) rfl ?_
          refine o_aload W28 at_137 (v := (.ref a24)) rfl rfl (pc' := 139) rfl ?_
          refine o_callSJ W28 (rm2_0 l Z a0 hw a24 h27 n0 W28.le  A_a24_27) (ow hw 5 rfl) (ow hw 6 rfl) (ow hw 3 rfl) (ow hw 7 rfl) (by decide) (argsL := [(.int (0 : Int32)), (.ref a24)]) (S := []) (lenOf own_pd1 rfl) rfl rfl rfl (wt := 0) rfl (by decide) (by decide) (by decide) (by decide) (kk' := 2) rfl (nn' := 0) rfl at_139 (pc' := 142) rfl ?_
          intro r29 T29 h29 W29 q29 z29
          obtain ⟨q29, rfl⟩ := q29
          have ht : r29.toInt = 1 := by rw [q29]; rfl
          refine o_lstore W29 (L' := #[.val (.int x0), .val (.int x1), .val (.int x2), .val (.int x3), .val (.int (0 : Int32)), .val (.int v18), .val (.int v19), .val (.int v20), .val (.int v21), .val (.int v22), .val (.int v23), .val (.ref a24), .val (.ref a26), .val (.long r28), .second, .val (.long r29), .second, .unset, .unset, .unset]) at_142 rfl (pc' := 144) rfl ?_
          refine o_aload W29 at_144 (v := (.ref a26)) rfl rfl (pc' := 146) rfl ?_
          refine o_aload W29 at_146 (v := (.ref a24)) rfl rfl (pc' := 148) rfl ?_
          refine o_callSI W29 (rm3_0 l Z a0 hw a26 a24 h27 n0 W29.le  A_a26 A_a24_27 b_a26 ne_a24_a26) (ow hw 8 rfl) (ow hw 9 rfl) (ow hw 10 rfl) (ow hw 11 rfl) (by decide) (argsL := [(.ref a26), (.ref a24)]) (S := []) (lenOf own_pd2 rfl) rfl rfl rfl (wt := 0) rfl (by decide) (by decide) (by decide) (by decide) (kk' := 2) rfl (nn' := 0) rfl at_148 (pc' := 151) rfl ?_
          intro r30 T30 h30 W30 q30 z30
          obtain ⟨KP, q30⟩ := q30
          have AL_30 := A_a24_27.keep1 KP ne_a24_a26
          refine o_istore W30 (L' := #[.val (.int x0), .val (.int x1), .val (.int x2), .val (.int x3), .val (.int (0 : Int32)), .val (.int v18), .val (.int v19), .val (.int v20), .val (.int v21), .val (.int v22), .val (.int v23), .val (.ref a24), .val (.ref a26), .val (.long r28), .second, .val (.long r29), .second, .val (.int r30), .unset, .unset]) at_151 rfl (pc' := 153) rfl ?_
          rcases q30 with ⟨rfl, AP, hq⟩
          · refine o_iload W30 at_153 (v := (0 : Int32)) rfl (pc' := 155) rfl ?_
            refine o_if_le W30 at_155 (by decide) (pq := 181) (by decide) (pc' := 158) rfl (fun hc155 => ?_) (fun hc155 => ?_)
            · refine o_iload W30 at_181 (v := (0 : Int32)) rfl (pc' := 183) rfl ?_
              refine o_iconst W30 (v := (1 : Int32)) at_183 rfl (pc' := 184) rfl ?_
              refine o_icmp_le W30 at_184 (by decide) (pq := 210) (by decide) (pc' := 187) rfl (fun hc184 => ?_) (fun hc184 => ?_)
              · refine o_iload W30 at_210 (v := (0 : Int32)) rfl (pc' := 212) rfl ?_
                refine o_iconst W30 (v := (2 : Int32)) at_212 rfl (pc' := 213) rfl ?_
                refine o_icmp_le W30 at_213 (by decide) (pq := 239) (by decide) (pc' := 216) rfl (fun hc213 => ?_) (fun hc213 => ?_)
                · refine o_iload W30 at_239 (v := (0 : Int32)) rfl (pc' := 241) rfl ?_
                  refine o_aload W30 at_241 (v := (.ref a26)) rfl rfl (pc' := 243) rfl ?_
                  refine o_aload W30 at_243 (v := (.ref a24)) rfl rfl (pc' := 245) rfl ?_
                  refine o_callSJ W30 (rm1_0 l Z a0 hw a26 a24 h30 n0 W30.le  AP AL_30) (ow hw 1 rfl) (ow hw 2 rfl) (ow hw 3 rfl) (ow hw 4 rfl) (by decide) (argsL := [(.int (0 : Int32)), (.ref a26), (.ref a24)]) (S := []) (lenOf own_pd0 rfl) rfl rfl rfl (wt := 0) rfl (by decide) (by decide) (by decide) (by decide) (kk' := 2) rfl (nn' := 0) rfl at_245 (pc' := 248) rfl ?_
                  intro r31 T31 h31 W31 q31 z31
                  obtain ⟨q31, rfl⟩ := q31
                  have ha : r31.toInt = 0 := by rw [q31]; rfl
                  refine o_lstore W31 (L' := #[.val (.int x0), .val (.int x1), .val (.int x2), .val (.int x3), .val (.int (0 : Int32)), .val (.int v18), .val (.int v19), .val (.int v20), .val (.int v21), .val (.int v22), .val (.int v23), .val (.ref a24), .val (.ref a26), .val (.long r28), .second, .val (.long r29), .second, .val (.int (0 : Int32)), .val (.long r31), .second]) at_248 rfl (pc' := 250) rfl ?_
                  have hb1 : (r28 + 1).toInt = r28.toInt + 1 := by rw [Jvm.Kit.i64_add (by omega) (by omega), d1]
                  refine o_lload W31 at_250 (v := r28) rfl (pc' := 252) rfl ?_
                  refine o_lconst W31 (v := (1 : Int64)) at_252 rfl (pc' := 253) rfl ?_
                  refine o_ladd W31 at_253 (pc' := 254) rfl ?_
                  refine o_lload W31 at_254 (v := r29) rfl (pc' := 256) rfl ?_
                  refine o_lcmp_ge W31 at_256 (pc1 := 257) rfl at_257 (by decide) (pq := 281) (by decide) (pc' := 260) rfl (fun hc256 => ?_) (fun hc256 => ?_)
                  · refine o_iload W31 at_281 (v := (0 : Int32)) rfl (pc' := 283) rfl ?_
                    refine o_if_ne W31 at_283 (by decide) (pq := 297) (by decide) (pc' := 286) rfl (fun hc283 => ?_) (fun hc283 => ?_)
                    · exact absurd hc283 (by decide)
                    · refine o_lload W31 at_286 (v := r31) rfl (pc' := 288) rfl ?_
                      refine o_lconst W31 (v := (0 : Int64)) at_288 rfl (pc' := 289) rfl ?_
                      refine o_lcmp_ne W31 at_289 (pc1 := 290) rfl at_290 (by decide) (pq := 297) (by decide) (pc' := 293) rfl (fun hc289 => ?_) (fun hc289 => ?_)
                      · exfalso; omega
                      · refine o_iconst W31 (v := (1 : Int32)) at_293 rfl (pc' := 294) rfl ?_
                        refine o_goto W31 at_294 (by decide) (pq := 298) (by decide) ?_
                        refine o_retN W31 (t := .boolean) rfl (by simp) at_298 (by decide) (by decide) ?_
                        exact rfl
                  · exfalso; omega
                · exact absurd hc213 (by decide)
              · exact absurd hc184 (by decide)
            · exact absurd hc155 (by decide)
        · exact absurd hc109 (by decide)
      · exact absurd hc91 (by decide)
    · exact absurd hc73 (by decide)
  · refine o_iload W0 at_59 (v := (1 : Int32)) rfl (pc' := 61) rfl ?_
    refine o_newarray W0 (ty := .int) (len := 1) (cap := 1) (ow hw 0 rfl) rfl rfl rfl at_61 (pc' := 63) rfl rfl (by decide) (by decide) (by decide) (by decide) (kk' := 1) rfl (nn' := 1) rfl ?_
    intro T33 h33 a32 W33 E33 g_a32 A_a32
    have b_a32 : n0 ≤ a32 := by rw [g_a32]; exact W0.le
    have A_a32 : OA Z h33 a32 .int [0] := A_a32
    refine o_astore W33 (L' := #[.val (.int x0), .val (.int x1), .val (.int x2), .val (.int x3), .val (.int (1 : Int32)), .val (.int v18), .val (.int v19), .val (.int v20), .val (.int v21), .val (.int v22), .val (.int v23), .val (.ref a32), .unset, .unset, .unset, .unset, .unset, .unset, .unset, .unset]) at_63 rfl rfl (pc' := 65) rfl ?_
    refine o_iload W33 at_65 (v := (1 : Int32)) rfl (pc' := 67) rfl ?_
    refine o_newarray W33 (ty := .int) (len := 1) (cap := 1) (ow hw 0 rfl) rfl rfl rfl at_67 (pc' := 69) rfl rfl (by decide) (by decide) (by decide) (by decide) (kk' := 2) rfl (nn' := 2) rfl ?_
    intro T35 h35 a34 W35 E35 g_a34 A_a34
    have b_a34 : n0 ≤ a34 := by rw [g_a34]; exact W33.le
    have ne_a32_a34 : a32 ≠ a34 := Nat.ne_of_lt (Nat.lt_of_lt_of_le A_a32.lt (Nat.le_of_eq g_a34.symm))
    have A_a32_35 := A_a32.ext E35
    have A_a34 : OA Z h35 a34 .int [0] := A_a34
    refine o_astore W35 (L' := #[.val (.int x0), .val (.int x1), .val (.int x2), .val (.int x3), .val (.int (1 : Int32)), .val (.int v18), .val (.int v19), .val (.int v20), .val (.int v21), .val (.int v22), .val (.int v23), .val (.ref a32), .val (.ref a34), .unset, .unset, .unset, .unset, .unset, .unset, .unset]) at_69 rfl rfl (pc' := 71) rfl ?_
    refine o_iload W35 at_71 (v := (1 : Int32)) rfl (pc' := 73) rfl ?_
    refine o_if_le W35 at_73 (by decide) (pq := 88) (by decide) (pc' := 76) rfl (fun hc73 => ?_) (fun hc73 => ?_)
    · exact absurd hc73 (by decide)
    · refine o_aload W35 at_76 (v := (.ref a32)) rfl rfl (pc' := 78) rfl ?_
      refine o_iconst W35 (v := (0 : Int32)) at_78 rfl (pc' := 79) rfl ?_
      refine o_iload W35 at_79 (v := v18) rfl (pc' := 81) rfl ?_
      refine o_iastore W35 A_a32_35 b_a32 at_81 (pc' := 82) rfl (i := 0) rfl (Nat.le_of_ble_eq_true rfl) ?_
      intro T36 h36 W36 K36 A_a32_36
      have A_a34_36 := A_a34.keep1 K36 ne_a32_a34.symm
      have A_a32_36 : OA Z h36 a32 .int [v18] := A_a32_36
      refine o_aload W36 at_82 (v := (.ref a34)) rfl rfl (pc' := 84) rfl ?_
      refine o_iconst W36 (v := (0 : Int32)) at_84 rfl (pc' := 85) rfl ?_
      refine o_iload W36 at_85 (v := v19) rfl (pc' := 87) rfl ?_
      refine o_iastore W36 A_a34_36 b_a34 at_87 (pc' := 88) rfl (i := 0) rfl (Nat.le_of_ble_eq_true rfl) ?_
      intro T37 h37 W37 K37 A_a34_37
      have A_a32_37 := A_a32_36.keep1 K37 ne_a32_a34
      have A_a34_37 : OA Z h37 a34 .int [v19] := A_a34_37
      refine o_iload W37 at_88 (v := (1 : Int32)) rfl (pc' := 90) rfl ?_
      refine o_iconst W37 (v := (1 : Int32)) at_90 rfl (pc' := 91) rfl ?_
      refine o_icmp_le W37 at_91 (by decide) (pq := 106) (by decide) (pc' := 94) rfl (fun hc91 => ?_) (fun hc91 => ?_)
      · refine o_iload W37 at_106 (v := (1 : Int32)) rfl (pc' := 108) rfl ?_
        refine o_iconst W37 (v := (2 : Int32)) at_108 rfl (pc' := 109) rfl ?_
        refine o_icmp_le W37 at_109 (by decide) (pq := 124) (by decide) (pc' := 112) rfl (fun hc109 => ?_) (fun hc109 => ?_)
        · refine o_iload W37 at_124 (v := (1 : Int32)) rfl (pc' := 126) rfl ?_
          refine o_aload W37 at_126 (v := (.ref a34)) rfl rfl (pc' := 128) rfl ?_
          refine o_aload W37 at_128 (v := (.ref a32)) rfl rfl (pc' := 130) rfl ?_
          refine o_callSJ W37 (rm1_1 l Z a0 hw a34 a32 h37 n0 W37.le _ _  A_a34_37 A_a32_37) (ow hw 1 rfl) (ow hw 2 rfl) (ow hw 3 rfl) (ow hw 4 rfl) (by decide) (argsL := [(.int (1 : Int32)), (.ref a34), (.ref a32)]) (S := []) (lenOf own_pd0 rfl) rfl rfl rfl (wt := 0) rfl (by decide) (by decide) (by decide) (by decide) (kk' := 2) rfl (nn' := 2) rfl at_130 (pc' := 133) rfl ?_
          intro r38 T38 h38 W38 q38 z38
          obtain ⟨q38, rfl⟩ := q38
          have hb : r38.toInt = v19.toInt := by rw [q38]; exact Jvm.Kit.i64_of_i32 _
          refine o_lstore W38 (L' := #[.val (.int x0), .val (.int x1), .val (.int x2), .val (.int x3), .val (.int (1 : Int32)), .val (.int v18), .val (.int v19), .val (.int v20), .val (.int v21), .val (.int v22), .val (.int v23), .val (.ref a32), .val (.ref a34), .val (.long r38), .second, .unset, .unset, .unset, .unset, .unset]) at_133 rfl (pc' := 135) rfl ?_
          refine o_iload W38 at_135 (v := (1 : Int32)) rfl (pc' := 137) rfl ?_
          refine o_aload W38 at_137 (v := (.ref a32)) rfl rfl (pc' := 139) rfl ?_
          refine o_callSJ W38 (rm2_1 l Z a0 hw a32 h37 n0 W38.le _  A_a32_37) (ow hw 5 rfl) (ow hw 6 rfl) (ow hw 3 rfl) (ow hw 7 rfl) (by decide) (argsL := [(.int (1 : Int32)), (.ref a32)]) (S := []) (lenOf own_pd1 rfl) rfl rfl rfl (wt := 0) rfl (by decide) (by decide) (by decide) (by decide) (kk' := 2) rfl (nn' := 2) rfl at_139 (pc' := 142) rfl ?_
          intro r39 T39 h39 W39 q39 z39
          obtain ⟨q39, rfl⟩ := q39
          have ht := own_t1 v18
          rw [← q39] at ht
          refine o_lstore W39 (L' := #[.val (.int x0), .val (.int x1), .val (.int x2), .val (.int x3), .val (.int (1 : Int32)), .val (.int v18), .val (.int v19), .val (.int v20), .val (.int v21), .val (.int v22), .val (.int v23), .val (.ref a32), .val (.ref a34), .val (.long r38), .second, .val (.long r39), .second, .unset, .unset, .unset]) at_142 rfl (pc' := 144) rfl ?_
          refine o_aload W39 at_144 (v := (.ref a34)) rfl rfl (pc' := 146) rfl ?_
          refine o_aload W39 at_146 (v := (.ref a32)) rfl rfl (pc' := 148) rfl ?_
          refine o_callSI W39 (rm3_1 l Z a0 hw a34 a32 h37 n0 W39.le _ _  A_a34_37 A_a32_37 b_a34 ne_a32_a34) (ow hw 8 rfl) (ow hw 9 rfl) (ow hw 10 rfl) (ow hw 11 rfl) (by decide) (argsL := [(.ref a34), (.ref a32)]) (S := []) (lenOf own_pd2 rfl) rfl rfl rfl (wt := 0) rfl (by decide) (by decide) (by decide) (by decide) (kk' := 2) rfl (nn' := 2) rfl at_148 (pc' := 151) rfl ?_
          intro r40 T40 h40 W40 q40 z40
          obtain ⟨KP, q40⟩ := q40
          have AL_40 := A_a32_37.keep1 KP ne_a32_a34
          refine o_istore W40 (L' := #[.val (.int x0), .val (.int x1), .val (.int x2), .val (.int x3), .val (.int (1 : Int32)), .val (.int v18), .val (.int v19), .val (.int v20), .val (.int v21), .val (.int v22), .val (.int v23), .val (.ref a32), .val (.ref a34), .val (.long r38), .second, .val (.long r39), .second, .val (.int r40), .unset, .unset]) at_151 rfl (pc' := 153) rfl ?_
          rcases q40 with ⟨rfl, AP, hq⟩ | ⟨rfl, AP, hq⟩
          · refine o_iload W40 at_153 (v := (1 : Int32)) rfl (pc' := 155) rfl ?_
            refine o_if_le W40 at_155 (by decide) (pq := 181) (by decide) (pc' := 158) rfl (fun hc155 => ?_) (fun hc155 => ?_)
            · exact absurd hc155 (by decide)
            · refine o_aload W40 at_158 (v := (.ref a32)) rfl rfl (pc' := 160) rfl ?_
              refine o_iconst W40 (v := (0 : Int32)) at_160 rfl (pc' := 161) rfl ?_
              refine o_iaload W40 AL_40 at_161 (pc' := 162) rfl (i := 0) (v := v18) rfl rfl ?_
              refine o_iload W40 at_162 (v := v18) rfl (pc' := 164) rfl ?_
              refine o_icmp_ne W40 at_164 (by decide) (pq := 179) (by decide) (pc' := 167) rfl (fun hc164 => ?_) (fun hc164 => ?_)
              · exact absurd rfl hc164
              · refine o_aload W40 at_167 (v := (.ref a34)) rfl rfl (pc' := 169) rfl ?_
                refine o_iconst W40 (v := (0 : Int32)) at_169 rfl (pc' := 170) rfl ?_
                refine o_iaload W40 AP at_170 (pc' := 171) rfl (i := 0) (v := (v19 + 1)) rfl rfl ?_
                refine o_iload W40 at_171 (v := v18) rfl (pc' := 173) rfl ?_
                refine o_callSI W40 (rm4 l Z a0 hw (v19 + 1) v18 h40 n0 W40.le) (ow hw 12 rfl) (ow hw 13 rfl) (ow hw 3 rfl) (ow hw 14 rfl) (by decide) (argsL := [(.int (v19 + 1)), (.int v18)]) (S := []) (lenOf own_pd3 rfl) rfl rfl rfl (wt := 0) rfl (by decide) (by decide) (by decide) (by decide) (kk' := 2) rfl (nn' := 2) rfl at_173 (pc' := 176) rfl ?_
                intro r41 T41 h41 W41 q41 z41
                obtain ⟨q41, rfl⟩ := q41
                refine o_if_ne W41 at_176 (by decide) (pq := 181) (by decide) (pc' := 179) rfl (fun hc176 => ?_) (fun hc176 => ?_)
                · refine o_iload W41 at_181 (v := (1 : Int32)) rfl (pc' := 183) rfl ?_
                  refine o_iconst W41 (v := (1 : Int32)) at_183 rfl (pc' := 184) rfl ?_
                  refine o_icmp_le W41 at_184 (by decide) (pq := 210) (by decide) (pc' := 187) rfl (fun hc184 => ?_) (fun hc184 => ?_)
                  · refine o_iload W41 at_210 (v := (1 : Int32)) rfl (pc' := 212) rfl ?_
                    refine o_iconst W41 (v := (2 : Int32)) at_212 rfl (pc' := 213) rfl ?_
                    refine o_icmp_le W41 at_213 (by decide) (pq := 239) (by decide) (pc' := 216) rfl (fun hc213 => ?_) (fun hc213 => ?_)
                    · refine o_iload W41 at_239 (v := (1 : Int32)) rfl (pc' := 241) rfl ?_
                      refine o_aload W41 at_241 (v := (.ref a34)) rfl rfl (pc' := 243) rfl ?_
                      refine o_aload W41 at_243 (v := (.ref a32)) rfl rfl (pc' := 245) rfl ?_
                      refine o_callSJ W41 (rm1_1 l Z a0 hw a34 a32 h40 n0 W41.le _ _  AP AL_40) (ow hw 1 rfl) (ow hw 2 rfl) (ow hw 3 rfl) (ow hw 4 rfl) (by decide) (argsL := [(.int (1 : Int32)), (.ref a34), (.ref a32)]) (S := []) (lenOf own_pd0 rfl) rfl rfl rfl (wt := 0) rfl (by decide) (by decide) (by decide) (by decide) (kk' := 2) rfl (nn' := 2) rfl at_245 (pc' := 248) rfl ?_
                      intro r42 T42 h42 W42 q42 z42
                      obtain ⟨q42, rfl⟩ := q42
                      have ha : r42.toInt = (v19 + 1).toInt := by rw [q42]; exact Jvm.Kit.i64_of_i32 _
                      refine o_lstore W42 (L' := #[.val (.int x0), .val (.int x1), .val (.int x2), .val (.int x3), .val (.int (1 : Int32)), .val (.int v18), .val (.int v19), .val (.int v20), .val (.int v21), .val (.int v22), .val (.int v23), .val (.ref a32), .val (.ref a34), .val (.long r38), .second, .val (.long r39), .second, .val (.int (1 : Int32)), .val (.long r42), .second]) at_248 rfl (pc' := 250) rfl ?_
                      rw [hp6] at ha
                      have hb1 : (r38 + 1).toInt = r38.toInt + 1 := by rw [Jvm.Kit.i64_add (by omega) (by omega), d1]
                      refine o_lload W42 at_250 (v := r38) rfl (pc' := 252) rfl ?_
                      refine o_lconst W42 (v := (1 : Int64)) at_252 rfl (pc' := 253) rfl ?_
                      refine o_ladd W42 at_253 (pc' := 254) rfl ?_
                      refine o_lload W42 at_254 (v := r39) rfl (pc' := 256) rfl ?_
                      refine o_lcmp_ge W42 at_256 (pc1 := 257) rfl at_257 (by decide) (pq := 281) (by decide) (pc' := 260) rfl (fun hc256 => ?_) (fun hc256 => ?_)
                      · exfalso; omega
                      · refine o_iload W42 at_260 (v := (1 : Int32)) rfl (pc' := 262) rfl ?_
                        refine o_if_eq W42 at_262 (by decide) (pq := 279) (by decide) (pc' := 265) rfl (fun hc262 => ?_) (fun hc262 => ?_)
                        · exact absurd hc262 (by decide)
                        · refine o_lload W42 at_265 (v := r42) rfl (pc' := 267) rfl ?_
                          refine o_lload W42 at_267 (v := r38) rfl (pc' := 269) rfl ?_
                          refine o_lconst W42 (v := (1 : Int64)) at_269 rfl (pc' := 270) rfl ?_
                          refine o_ladd W42 at_270 (pc' := 271) rfl ?_
                          refine o_lcmp_ne W42 at_271 (pc1 := 272) rfl at_272 (by decide) (pq := 279) (by decide) (pc' := 275) rfl (fun hc271 => ?_) (fun hc271 => ?_)
                          · exfalso; omega
                          · refine o_iconst W42 (v := (1 : Int32)) at_275 rfl (pc' := 276) rfl ?_
                            refine o_goto W42 at_276 (by decide) (pq := 280) (by decide) ?_
                            refine o_retN W42 (t := .boolean) rfl (by simp) at_280 (by decide) (by decide) ?_
                            exact rfl
                    · exact absurd hc213 (by decide)
                  · exact absurd hc184 (by decide)
                · exfalso
                  rcases q41 with ⟨rfl, u⟩ | ⟨rfl, u⟩ <;> omega
          · refine o_iload W40 at_153 (v := (1 : Int32)) rfl (pc' := 155) rfl ?_
            refine o_if_le W40 at_155 (by decide) (pq := 181) (by decide) (pc' := 158) rfl (fun hc155 => ?_) (fun hc155 => ?_)
            · exact absurd hc155 (by decide)
            · refine o_aload W40 at_158 (v := (.ref a32)) rfl rfl (pc' := 160) rfl ?_
              refine o_iconst W40 (v := (0 : Int32)) at_160 rfl (pc' := 161) rfl ?_
              refine o_iaload W40 AL_40 at_161 (pc' := 162) rfl (i := 0) (v := v18) rfl rfl ?_
              refine o_iload W40 at_162 (v := v18) rfl (pc' := 164) rfl ?_
              refine o_icmp_ne W40 at_164 (by decide) (pq := 179) (by decide) (pc' := 167) rfl (fun hc164 => ?_) (fun hc164 => ?_)
              · exact absurd rfl hc164
              · refine o_aload W40 at_167 (v := (.ref a34)) rfl rfl (pc' := 169) rfl ?_
                refine o_iconst W40 (v := (0 : Int32)) at_169 rfl (pc' := 170) rfl ?_
                refine o_iaload W40 AP at_170 (pc' := 171) rfl (i := 0) (v := (0 : Int32)) rfl rfl ?_
                refine o_iload W40 at_171 (v := v18) rfl (pc' := 173) rfl ?_
                refine o_callSI W40 (rm4 l Z a0 hw (0 : Int32) v18 h40 n0 W40.le) (ow hw 12 rfl) (ow hw 13 rfl) (ow hw 3 rfl) (ow hw 14 rfl) (by decide) (argsL := [(.int (0 : Int32)), (.int v18)]) (S := []) (lenOf own_pd3 rfl) rfl rfl rfl (wt := 0) rfl (by decide) (by decide) (by decide) (by decide) (kk' := 2) rfl (nn' := 2) rfl at_173 (pc' := 176) rfl ?_
                intro r43 T43 h43 W43 q43 z43
                obtain ⟨q43, rfl⟩ := q43
                refine o_if_ne W43 at_176 (by decide) (pq := 181) (by decide) (pc' := 179) rfl (fun hc176 => ?_) (fun hc176 => ?_)
                · refine o_iload W43 at_181 (v := (1 : Int32)) rfl (pc' := 183) rfl ?_
                  refine o_iconst W43 (v := (1 : Int32)) at_183 rfl (pc' := 184) rfl ?_
                  refine o_icmp_le W43 at_184 (by decide) (pq := 210) (by decide) (pc' := 187) rfl (fun hc184 => ?_) (fun hc184 => ?_)
                  · refine o_iload W43 at_210 (v := (1 : Int32)) rfl (pc' := 212) rfl ?_
                    refine o_iconst W43 (v := (2 : Int32)) at_212 rfl (pc' := 213) rfl ?_
                    refine o_icmp_le W43 at_213 (by decide) (pq := 239) (by decide) (pc' := 216) rfl (fun hc213 => ?_) (fun hc213 => ?_)
                    · refine o_iload W43 at_239 (v := (1 : Int32)) rfl (pc' := 241) rfl ?_
                      refine o_aload W43 at_241 (v := (.ref a34)) rfl rfl (pc' := 243) rfl ?_
                      refine o_aload W43 at_243 (v := (.ref a32)) rfl rfl (pc' := 245) rfl ?_
                      refine o_callSJ W43 (rm1_1 l Z a0 hw a34 a32 h40 n0 W43.le _ _  AP AL_40) (ow hw 1 rfl) (ow hw 2 rfl) (ow hw 3 rfl) (ow hw 4 rfl) (by decide) (argsL := [(.int (1 : Int32)), (.ref a34), (.ref a32)]) (S := []) (lenOf own_pd0 rfl) rfl rfl rfl (wt := 0) rfl (by decide) (by decide) (by decide) (by decide) (kk' := 2) rfl (nn' := 2) rfl at_245 (pc' := 248) rfl ?_
                      intro r44 T44 h44 W44 q44 z44
                      obtain ⟨q44, rfl⟩ := q44
                      have ha : r44.toInt = (0 : Int32).toInt := by rw [q44]; exact Jvm.Kit.i64_of_i32 _
                      refine o_lstore W44 (L' := #[.val (.int x0), .val (.int x1), .val (.int x2), .val (.int x3), .val (.int (1 : Int32)), .val (.int v18), .val (.int v19), .val (.int v20), .val (.int v21), .val (.int v22), .val (.int v23), .val (.ref a32), .val (.ref a34), .val (.long r38), .second, .val (.long r39), .second, .val (.int (0 : Int32)), .val (.long r44), .second]) at_248 rfl (pc' := 250) rfl ?_
                      rw [c0] at ha
                      have hb1 : (r38 + 1).toInt = r38.toInt + 1 := by rw [Jvm.Kit.i64_add (by omega) (by omega), d1]
                      refine o_lload W44 at_250 (v := r38) rfl (pc' := 252) rfl ?_
                      refine o_lconst W44 (v := (1 : Int64)) at_252 rfl (pc' := 253) rfl ?_
                      refine o_ladd W44 at_253 (pc' := 254) rfl ?_
                      refine o_lload W44 at_254 (v := r39) rfl (pc' := 256) rfl ?_
                      refine o_lcmp_ge W44 at_256 (pc1 := 257) rfl at_257 (by decide) (pq := 281) (by decide) (pc' := 260) rfl (fun hc256 => ?_) (fun hc256 => ?_)
                      · refine o_iload W44 at_281 (v := (0 : Int32)) rfl (pc' := 283) rfl ?_
                        refine o_if_ne W44 at_283 (by decide) (pq := 297) (by decide) (pc' := 286) rfl (fun hc283 => ?_) (fun hc283 => ?_)
                        · exact absurd hc283 (by decide)
                        · refine o_lload W44 at_286 (v := r44) rfl (pc' := 288) rfl ?_
                          refine o_lconst W44 (v := (0 : Int64)) at_288 rfl (pc' := 289) rfl ?_
                          refine o_lcmp_ne W44 at_289 (pc1 := 290) rfl at_290 (by decide) (pq := 297) (by decide) (pc' := 293) rfl (fun hc289 => ?_) (fun hc289 => ?_)
                          · exfalso; omega
                          · refine o_iconst W44 (v := (1 : Int32)) at_293 rfl (pc' := 294) rfl ?_
                            refine o_goto W44 at_294 (by decide) (pq := 298) (by decide) ?_
                            refine o_retN W44 (t := .boolean) rfl (by simp) at_298 (by decide) (by decide) ?_
                            exact rfl
                      · exfalso; omega
                    · exact absurd hc213 (by decide)
                  · exact absurd hc184 (by decide)
                · exfalso
                  rcases q43 with ⟨rfl, u⟩ | ⟨rfl, u⟩ <;> omega
        · exact absurd hc109 (by decide)
      · exact absurd hc91 (by decide)
  · refine o_iload W0 at_59 (v := (2 : Int32)) rfl (pc' := 61) rfl ?_
    refine o_newarray W0 (ty := .int) (len := 2) (cap := 2) (ow hw 0 rfl) rfl rfl rfl at_61 (pc' := 63) rfl rfl (by decide) (by decide) (by decide) (by decide) (kk' := 1) rfl (nn' := 2) rfl ?_
    intro T46 h46 a45 W46 E46 g_a45 A_a45
    have b_a45 : n0 ≤ a45 := by rw [g_a45]; exact W0.le
    have A_a45 : OA Z h46 a45 .int [0, 0] := A_a45
    refine o_astore W46 (L' := #[.val (.int x0), .val (.int x1), .val (.int x2), .val (.int x3), .val (.int (2 : Int32)), .val (.int v18), .val (.int v19), .val (.int v20), .val (.int v21), .val (.int v22), .val (.int v23), .val (.ref a45), .unset, .unset, .unset, .unset, .unset, .unset, .unset, .unset]) at_63 rfl rfl (pc' := 65) rfl ?_
    refine o_iload W46 at_65 (v := (2 : Int32)) rfl (pc' := 67) rfl ?_
    refine o_newarray W46 (ty := .int) (len := 2) (cap := 2) (ow hw 0 rfl) rfl rfl rfl at_67 (pc' := 69) rfl rfl (by decide) (by decide) (by decide) (by decide) (kk' := 2) rfl (nn' := 4) rfl ?_
    intro T48 h48 a47 W48 E48 g_a47 A_a47
    have b_a47 : n0 ≤ a47 := by rw [g_a47]; exact W46.le
    have ne_a45_a47 : a45 ≠ a47 := Nat.ne_of_lt (Nat.lt_of_lt_of_le A_a45.lt (Nat.le_of_eq g_a47.symm))
    have A_a45_48 := A_a45.ext E48
    have A_a47 : OA Z h48 a47 .int [0, 0] := A_a47
    refine o_astore W48 (L' := #[.val (.int x0), .val (.int x1), .val (.int x2), .val (.int x3), .val (.int (2 : Int32)), .val (.int v18), .val (.int v19), .val (.int v20), .val (.int v21), .val (.int v22), .val (.int v23), .val (.ref a45), .val (.ref a47), .unset, .unset, .unset, .unset, .unset, .unset, .unset]) at_69 rfl rfl (pc' := 71) rfl ?_
    refine o_iload W48 at_71 (v := (2 : Int32)) rfl (pc' := 73) rfl ?_
    refine o_if_le W48 at_73 (by decide) (pq := 88) (by decide) (pc' := 76) rfl (fun hc73 => ?_) (fun hc73 => ?_)
    · exact absurd hc73 (by decide)
    · refine o_aload W48 at_76 (v := (.ref a45)) rfl rfl (pc' := 78) rfl ?_
      refine o_iconst W48 (v := (0 : Int32)) at_78 rfl (pc' := 79) rfl ?_
      refine o_iload W48 at_79 (v := v18) rfl (pc' := 81) rfl ?_
      refine o_iastore W48 A_a45_48 b_a45 at_81 (pc' := 82) rfl (i := 0) rfl (Nat.le_of_ble_eq_true rfl) ?_
      intro T49 h49 W49 K49 A_a45_49
      have A_a47_49 := A_a47.keep1 K49 ne_a45_a47.symm
      have A_a45_49 : OA Z h49 a45 .int [v18, 0] := A_a45_49
      refine o_aload W49 at_82 (v := (.ref a47)) rfl rfl (pc' := 84) rfl ?_
      refine o_iconst W49 (v := (0 : Int32)) at_84 rfl (pc' := 85) rfl ?_
      refine o_iload W49 at_85 (v := v19) rfl (pc' := 87) rfl ?_
      refine o_iastore W49 A_a47_49 b_a47 at_87 (pc' := 88) rfl (i := 0) rfl (Nat.le_of_ble_eq_true rfl) ?_
      intro T50 h50 W50 K50 A_a47_50
      have A_a45_50 := A_a45_49.keep1 K50 ne_a45_a47
      have A_a47_50 : OA Z h50 a47 .int [v19, 0] := A_a47_50
      refine o_iload W50 at_88 (v := (2 : Int32)) rfl (pc' := 90) rfl ?_
      refine o_iconst W50 (v := (1 : Int32)) at_90 rfl (pc' := 91) rfl ?_
      refine o_icmp_le W50 at_91 (by decide) (pq := 106) (by decide) (pc' := 94) rfl (fun hc91 => ?_) (fun hc91 => ?_)
      · exact absurd hc91 (by decide)
      · refine o_aload W50 at_94 (v := (.ref a45)) rfl rfl (pc' := 96) rfl ?_
        refine o_iconst W50 (v := (1 : Int32)) at_96 rfl (pc' := 97) rfl ?_
        refine o_iload W50 at_97 (v := v20) rfl (pc' := 99) rfl ?_
        refine o_iastore W50 A_a45_50 b_a45 at_99 (pc' := 100) rfl (i := 1) rfl (Nat.le_of_ble_eq_true rfl) ?_
        intro T51 h51 W51 K51 A_a45_51
        have A_a47_51 := A_a47_50.keep1 K51 ne_a45_a47.symm
        have A_a45_51 : OA Z h51 a45 .int [v18, v20] := A_a45_51
        refine o_aload W51 at_100 (v := (.ref a47)) rfl rfl (pc' := 102) rfl ?_
        refine o_iconst W51 (v := (1 : Int32)) at_102 rfl (pc' := 103) rfl ?_
        refine o_iload W51 at_103 (v := v21) rfl (pc' := 105) rfl ?_
        refine o_iastore W51 A_a47_51 b_a47 at_105 (pc' := 106) rfl (i := 1) rfl (Nat.le_of_ble_eq_true rfl) ?_
        intro T52 h52 W52 K52 A_a47_52
        have A_a45_52 := A_a45_51.keep1 K52 ne_a45_a47
        have A_a47_52 : OA Z h52 a47 .int [v19, v21] := A_a47_52
        refine o_iload W52 at_106 (v := (2 : Int32)) rfl (pc' := 108) rfl ?_
        refine o_iconst W52 (v := (2 : Int32)) at_108 rfl (pc' := 109) rfl ?_
        refine o_icmp_le W52 at_109 (by decide) (pq := 124) (by decide) (pc' := 112) rfl (fun hc109 => ?_) (fun hc109 => ?_)
        · refine o_iload W52 at_124 (v := (2 : Int32)) rfl (pc' := 126) rfl ?_
          refine o_aload W52 at_126 (v := (.ref a47)) rfl rfl (pc' := 128) rfl ?_
          refine o_aload W52 at_128 (v := (.ref a45)) rfl rfl (pc' := 130) rfl ?_
          refine o_callSJ W52 (rm1_2 l Z a0 hw a47 a45 h52 n0 W52.le _ _ _ _  A_a47_52 A_a45_52) (ow hw 1 rfl) (ow hw 2 rfl) (ow hw 3 rfl) (ow hw 4 rfl) (by decide) (argsL := [(.int (2 : Int32)), (.ref a47), (.ref a45)]) (S := []) (lenOf own_pd0 rfl) rfl rfl rfl (wt := 0) rfl (by decide) (by decide) (by decide) (by decide) (kk' := 2) rfl (nn' := 4) rfl at_130 (pc' := 133) rfl ?_
          intro r53 T53 h53 W53 q53 z53
          obtain ⟨q53, rfl⟩ := q53
          have hb := own_rk2 v19 v21 v20 (by omega) (by omega) (by omega)
          rw [← q53] at hb
          refine o_lstore W53 (L' := #[.val (.int x0), .val (.int x1), .val (.int x2), .val (.int x3), .val (.int (2 : Int32)), .val (.int v18), .val (.int v19), .val (.int v20), .val (.int v21), .val (.int v22), .val (.int v23), .val (.ref a45), .val (.ref a47), .val (.long r53), .second, .unset, .unset, .unset, .unset, .unset]) at_133 rfl (pc' := 135) rfl ?_
          refine o_iload W53 at_135 (v := (2 : Int32)) rfl (pc' := 137) rfl ?_
          refine o_aload W53 at_137 (v := (.ref a45)) rfl rfl (pc' := 139) rfl ?_
          refine o_callSJ W53 (rm2_2 l Z a0 hw a45 h52 n0 W53.le _ _  A_a45_52) (ow hw 5 rfl) (ow hw 6 rfl) (ow hw 3 rfl) (ow hw 7 rfl) (by decide) (argsL := [(.int (2 : Int32)), (.ref a45)]) (S := []) (lenOf own_pd1 rfl) rfl rfl rfl (wt := 0) rfl (by decide) (by decide) (by decide) (by decide) (kk' := 2) rfl (nn' := 4) rfl at_139 (pc' := 142) rfl ?_
          intro r54 T54 h54 W54 q54 z54
          obtain ⟨q54, rfl⟩ := q54
          have ht := own_t2 v18 v20 (by omega) (by omega)
          rw [← q54] at ht
          refine o_lstore W54 (L' := #[.val (.int x0), .val (.int x1), .val (.int x2), .val (.int x3), .val (.int (2 : Int32)), .val (.int v18), .val (.int v19), .val (.int v20), .val (.int v21), .val (.int v22), .val (.int v23), .val (.ref a45), .val (.ref a47), .val (.long r53), .second, .val (.long r54), .second, .unset, .unset, .unset]) at_142 rfl (pc' := 144) rfl ?_
          refine o_aload W54 at_144 (v := (.ref a47)) rfl rfl (pc' := 146) rfl ?_
          refine o_aload W54 at_146 (v := (.ref a45)) rfl rfl (pc' := 148) rfl ?_
          refine o_callSI W54 (rm3_2 l Z a0 hw a47 a45 h52 n0 W54.le _ _ _ _  A_a47_52 A_a45_52 b_a47 ne_a45_a47) (ow hw 8 rfl) (ow hw 9 rfl) (ow hw 10 rfl) (ow hw 11 rfl) (by decide) (argsL := [(.ref a47), (.ref a45)]) (S := []) (lenOf own_pd2 rfl) rfl rfl rfl (wt := 0) rfl (by decide) (by decide) (by decide) (by decide) (kk' := 2) rfl (nn' := 4) rfl at_148 (pc' := 151) rfl ?_
          intro r55 T55 h55 W55 q55 z55
          obtain ⟨KP, q55⟩ := q55
          have AL_55 := A_a45_52.keep1 KP ne_a45_a47
          refine o_istore W55 (L' := #[.val (.int x0), .val (.int x1), .val (.int x2), .val (.int x3), .val (.int (2 : Int32)), .val (.int v18), .val (.int v19), .val (.int v20), .val (.int v21), .val (.int v22), .val (.int v23), .val (.ref a45), .val (.ref a47), .val (.long r53), .second, .val (.long r54), .second, .val (.int r55), .unset, .unset]) at_151 rfl (pc' := 153) rfl ?_
          obtain ⟨pp0, pp1, pp2⟩ := own_n2 v19.toInt v21.toInt v18.toInt v20.toInt (by omega) (by omega)
          rcases q55 with ⟨rfl, AP, hq⟩ | ⟨rfl, AP, hq⟩ | ⟨rfl, AP, hq⟩
          · have pq := pp0 (by omega)
            refine o_iload W55 at_153 (v := (2 : Int32)) rfl (pc' := 155) rfl ?_
            refine o_if_le W55 at_155 (by decide) (pq := 181) (by decide) (pc' := 158) rfl (fun hc155 => ?_) (fun hc155 => ?_)
            · exact absurd hc155 (by decide)
            · refine o_aload W55 at_158 (v := (.ref a45)) rfl rfl (pc' := 160) rfl ?_
              refine o_iconst W55 (v := (0 : Int32)) at_160 rfl (pc' := 161) rfl ?_
              refine o_iaload W55 AL_55 at_161 (pc' := 162) rfl (i := 0) (v := v18) rfl rfl ?_
              refine o_iload W55 at_162 (v := v18) rfl (pc' := 164) rfl ?_
              refine o_icmp_ne W55 at_164 (by decide) (pq := 179) (by decide) (pc' := 167) rfl (fun hc164 => ?_) (fun hc164 => ?_)
              · exact absurd rfl hc164
              · refine o_aload W55 at_167 (v := (.ref a47)) rfl rfl (pc' := 169) rfl ?_
                refine o_iconst W55 (v := (0 : Int32)) at_169 rfl (pc' := 170) rfl ?_
                refine o_iaload W55 AP at_170 (pc' := 171) rfl (i := 0) (v := v19) rfl rfl ?_
                refine o_iload W55 at_171 (v := v18) rfl (pc' := 173) rfl ?_
                refine o_callSI W55 (rm4 l Z a0 hw v19 v18 h55 n0 W55.le) (ow hw 12 rfl) (ow hw 13 rfl) (ow hw 3 rfl) (ow hw 14 rfl) (by decide) (argsL := [(.int v19), (.int v18)]) (S := []) (lenOf own_pd3 rfl) rfl rfl rfl (wt := 0) rfl (by decide) (by decide) (by decide) (by decide) (kk' := 2) rfl (nn' := 4) rfl at_173 (pc' := 176) rfl ?_
                intro r56 T56 h56 W56 q56 z56
                obtain ⟨q56, rfl⟩ := q56
                refine o_if_ne W56 at_176 (by decide) (pq := 181) (by decide) (pc' := 179) rfl (fun hc176 => ?_) (fun hc176 => ?_)
                · refine o_iload W56 at_181 (v := (2 : Int32)) rfl (pc' := 183) rfl ?_
                  refine o_iconst W56 (v := (1 : Int32)) at_183 rfl (pc' := 184) rfl ?_
                  refine o_icmp_le W56 at_184 (by decide) (pq := 210) (by decide) (pc' := 187) rfl (fun hc184 => ?_) (fun hc184 => ?_)
                  · exact absurd hc184 (by decide)
                  · refine o_aload W56 at_187 (v := (.ref a45)) rfl rfl (pc' := 189) rfl ?_
                    refine o_iconst W56 (v := (1 : Int32)) at_189 rfl (pc' := 190) rfl ?_
                    refine o_iaload W56 AL_55 at_190 (pc' := 191) rfl (i := 1) (v := v20) rfl rfl ?_
                    refine o_iload W56 at_191 (v := v20) rfl (pc' := 193) rfl ?_
                    refine o_icmp_ne W56 at_193 (by decide) (pq := 208) (by decide) (pc' := 196) rfl (fun hc193 => ?_) (fun hc193 => ?_)
                    · exact absurd rfl hc193
                    · refine o_aload W56 at_196 (v := (.ref a47)) rfl rfl (pc' := 198) rfl ?_
                      refine o_iconst W56 (v := (1 : Int32)) at_198 rfl (pc' := 199) rfl ?_
                      refine o_iaload W56 AP at_199 (pc' := 200) rfl (i := 1) (v := (v21 + 1)) rfl rfl ?_
                      refine o_iload W56 at_200 (v := v20) rfl (pc' := 202) rfl ?_
                      refine o_callSI W56 (rm4 l Z a0 hw (v21 + 1) v20 h55 n0 W56.le) (ow hw 12 rfl) (ow hw 13 rfl) (ow hw 3 rfl) (ow hw 14 rfl) (by decide) (argsL := [(.int (v21 + 1)), (.int v20)]) (S := []) (lenOf own_pd3 rfl) rfl rfl rfl (wt := 0) rfl (by decide) (by decide) (by decide) (by decide) (kk' := 2) rfl (nn' := 4) rfl at_202 (pc' := 205) rfl ?_
                      intro r57 T57 h57 W57 q57 z57
                      obtain ⟨q57, rfl⟩ := q57
                      refine o_if_ne W57 at_205 (by decide) (pq := 210) (by decide) (pc' := 208) rfl (fun hc205 => ?_) (fun hc205 => ?_)
                      · refine o_iload W57 at_210 (v := (2 : Int32)) rfl (pc' := 212) rfl ?_
                        refine o_iconst W57 (v := (2 : Int32)) at_212 rfl (pc' := 213) rfl ?_
                        refine o_icmp_le W57 at_213 (by decide) (pq := 239) (by decide) (pc' := 216) rfl (fun hc213 => ?_) (fun hc213 => ?_)
                        · refine o_iload W57 at_239 (v := (2 : Int32)) rfl (pc' := 241) rfl ?_
                          refine o_aload W57 at_241 (v := (.ref a47)) rfl rfl (pc' := 243) rfl ?_
                          refine o_aload W57 at_243 (v := (.ref a45)) rfl rfl (pc' := 245) rfl ?_
                          refine o_callSJ W57 (rm1_2 l Z a0 hw a47 a45 h55 n0 W57.le _ _ _ _  AP AL_55) (ow hw 1 rfl) (ow hw 2 rfl) (ow hw 3 rfl) (ow hw 4 rfl) (by decide) (argsL := [(.int (2 : Int32)), (.ref a47), (.ref a45)]) (S := []) (lenOf own_pd0 rfl) rfl rfl rfl (wt := 0) rfl (by decide) (by decide) (by decide) (by decide) (kk' := 2) rfl (nn' := 4) rfl at_245 (pc' := 248) rfl ?_
                          intro r58 T58 h58 W58 q58 z58
                          obtain ⟨q58, rfl⟩ := q58
                          have ha := own_rk2 v19 (v21 + 1) v20 (by omega) (by omega) (by omega)
                          rw [← q58] at ha
                          refine o_lstore W58 (L' := #[.val (.int x0), .val (.int x1), .val (.int x2), .val (.int x3), .val (.int (2 : Int32)), .val (.int v18), .val (.int v19), .val (.int v20), .val (.int v21), .val (.int v22), .val (.int v23), .val (.ref a45), .val (.ref a47), .val (.long r53), .second, .val (.long r54), .second, .val (.int (1 : Int32)), .val (.long r58), .second]) at_248 rfl (pc' := 250) rfl ?_
                          rw [hp8] at ha
                          have hb1 : (r53 + 1).toInt = r53.toInt + 1 := by rw [Jvm.Kit.i64_add (by omega) (by omega), d1]
                          refine o_lload W58 at_250 (v := r53) rfl (pc' := 252) rfl ?_
                          refine o_lconst W58 (v := (1 : Int64)) at_252 rfl (pc' := 253) rfl ?_
                          refine o_ladd W58 at_253 (pc' := 254) rfl ?_
                          refine o_lload W58 at_254 (v := r54) rfl (pc' := 256) rfl ?_
                          refine o_lcmp_ge W58 at_256 (pc1 := 257) rfl at_257 (by decide) (pq := 281) (by decide) (pc' := 260) rfl (fun hc256 => ?_) (fun hc256 => ?_)
                          · exfalso; omega
                          · refine o_iload W58 at_260 (v := (1 : Int32)) rfl (pc' := 262) rfl ?_
                            refine o_if_eq W58 at_262 (by decide) (pq := 279) (by decide) (pc' := 265) rfl (fun hc262 => ?_) (fun hc262 => ?_)
                            · exact absurd hc262 (by decide)
                            · refine o_lload W58 at_265 (v := r58) rfl (pc' := 267) rfl ?_
                              refine o_lload W58 at_267 (v := r53) rfl (pc' := 269) rfl ?_
                              refine o_lconst W58 (v := (1 : Int64)) at_269 rfl (pc' := 270) rfl ?_
                              refine o_ladd W58 at_270 (pc' := 271) rfl ?_
                              refine o_lcmp_ne W58 at_271 (pc1 := 272) rfl at_272 (by decide) (pq := 279) (by decide) (pc' := 275) rfl (fun hc271 => ?_) (fun hc271 => ?_)
                              · exfalso; omega
                              · refine o_iconst W58 (v := (1 : Int32)) at_275 rfl (pc' := 276) rfl ?_
                                refine o_goto W58 at_276 (by decide) (pq := 280) (by decide) ?_
                                refine o_retN W58 (t := .boolean) rfl (by simp) at_280 (by decide) (by decide) ?_
                                exact rfl
                        · exact absurd hc213 (by decide)
                      · exfalso
                        rcases q57 with ⟨rfl, u⟩ | ⟨rfl, u⟩ <;> omega
                · exfalso
                  rcases q56 with ⟨rfl, u⟩ | ⟨rfl, u⟩ <;> omega
          · have pq := pp1 (by omega) (by omega)
            refine o_iload W55 at_153 (v := (2 : Int32)) rfl (pc' := 155) rfl ?_
            refine o_if_le W55 at_155 (by decide) (pq := 181) (by decide) (pc' := 158) rfl (fun hc155 => ?_) (fun hc155 => ?_)
            · exact absurd hc155 (by decide)
            · refine o_aload W55 at_158 (v := (.ref a45)) rfl rfl (pc' := 160) rfl ?_
              refine o_iconst W55 (v := (0 : Int32)) at_160 rfl (pc' := 161) rfl ?_
              refine o_iaload W55 AL_55 at_161 (pc' := 162) rfl (i := 0) (v := v18) rfl rfl ?_
              refine o_iload W55 at_162 (v := v18) rfl (pc' := 164) rfl ?_
              refine o_icmp_ne W55 at_164 (by decide) (pq := 179) (by decide) (pc' := 167) rfl (fun hc164 => ?_) (fun hc164 => ?_)
              · exact absurd rfl hc164
              · refine o_aload W55 at_167 (v := (.ref a47)) rfl rfl (pc' := 169) rfl ?_
                refine o_iconst W55 (v := (0 : Int32)) at_169 rfl (pc' := 170) rfl ?_
                refine o_iaload W55 AP at_170 (pc' := 171) rfl (i := 0) (v := (v19 + 1)) rfl rfl ?_
                refine o_iload W55 at_171 (v := v18) rfl (pc' := 173) rfl ?_
                refine o_callSI W55 (rm4 l Z a0 hw (v19 + 1) v18 h55 n0 W55.le) (ow hw 12 rfl) (ow hw 13 rfl) (ow hw 3 rfl) (ow hw 14 rfl) (by decide) (argsL := [(.int (v19 + 1)), (.int v18)]) (S := []) (lenOf own_pd3 rfl) rfl rfl rfl (wt := 0) rfl (by decide) (by decide) (by decide) (by decide) (kk' := 2) rfl (nn' := 4) rfl at_173 (pc' := 176) rfl ?_
                intro r59 T59 h59 W59 q59 z59
                obtain ⟨q59, rfl⟩ := q59
                refine o_if_ne W59 at_176 (by decide) (pq := 181) (by decide) (pc' := 179) rfl (fun hc176 => ?_) (fun hc176 => ?_)
                · refine o_iload W59 at_181 (v := (2 : Int32)) rfl (pc' := 183) rfl ?_
                  refine o_iconst W59 (v := (1 : Int32)) at_183 rfl (pc' := 184) rfl ?_
                  refine o_icmp_le W59 at_184 (by decide) (pq := 210) (by decide) (pc' := 187) rfl (fun hc184 => ?_) (fun hc184 => ?_)
                  · exact absurd hc184 (by decide)
                  · refine o_aload W59 at_187 (v := (.ref a45)) rfl rfl (pc' := 189) rfl ?_
                    refine o_iconst W59 (v := (1 : Int32)) at_189 rfl (pc' := 190) rfl ?_
                    refine o_iaload W59 AL_55 at_190 (pc' := 191) rfl (i := 1) (v := v20) rfl rfl ?_
                    refine o_iload W59 at_191 (v := v20) rfl (pc' := 193) rfl ?_
                    refine o_icmp_ne W59 at_193 (by decide) (pq := 208) (by decide) (pc' := 196) rfl (fun hc193 => ?_) (fun hc193 => ?_)
                    · exact absurd rfl hc193
                    · refine o_aload W59 at_196 (v := (.ref a47)) rfl rfl (pc' := 198) rfl ?_
                      refine o_iconst W59 (v := (1 : Int32)) at_198 rfl (pc' := 199) rfl ?_
                      refine o_iaload W59 AP at_199 (pc' := 200) rfl (i := 1) (v := (0 : Int32)) rfl rfl ?_
                      refine o_iload W59 at_200 (v := v20) rfl (pc' := 202) rfl ?_
                      refine o_callSI W59 (rm4 l Z a0 hw (0 : Int32) v20 h55 n0 W59.le) (ow hw 12 rfl) (ow hw 13 rfl) (ow hw 3 rfl) (ow hw 14 rfl) (by decide) (argsL := [(.int (0 : Int32)), (.int v20)]) (S := []) (lenOf own_pd3 rfl) rfl rfl rfl (wt := 0) rfl (by decide) (by decide) (by decide) (by decide) (kk' := 2) rfl (nn' := 4) rfl at_202 (pc' := 205) rfl ?_
                      intro r60 T60 h60 W60 q60 z60
                      obtain ⟨q60, rfl⟩ := q60
                      refine o_if_ne W60 at_205 (by decide) (pq := 210) (by decide) (pc' := 208) rfl (fun hc205 => ?_) (fun hc205 => ?_)
                      · refine o_iload W60 at_210 (v := (2 : Int32)) rfl (pc' := 212) rfl ?_
                        refine o_iconst W60 (v := (2 : Int32)) at_212 rfl (pc' := 213) rfl ?_
                        refine o_icmp_le W60 at_213 (by decide) (pq := 239) (by decide) (pc' := 216) rfl (fun hc213 => ?_) (fun hc213 => ?_)
                        · refine o_iload W60 at_239 (v := (2 : Int32)) rfl (pc' := 241) rfl ?_
                          refine o_aload W60 at_241 (v := (.ref a47)) rfl rfl (pc' := 243) rfl ?_
                          refine o_aload W60 at_243 (v := (.ref a45)) rfl rfl (pc' := 245) rfl ?_
                          refine o_callSJ W60 (rm1_2 l Z a0 hw a47 a45 h55 n0 W60.le _ _ _ _  AP AL_55) (ow hw 1 rfl) (ow hw 2 rfl) (ow hw 3 rfl) (ow hw 4 rfl) (by decide) (argsL := [(.int (2 : Int32)), (.ref a47), (.ref a45)]) (S := []) (lenOf own_pd0 rfl) rfl rfl rfl (wt := 0) rfl (by decide) (by decide) (by decide) (by decide) (kk' := 2) rfl (nn' := 4) rfl at_245 (pc' := 248) rfl ?_
                          intro r61 T61 h61 W61 q61 z61
                          obtain ⟨q61, rfl⟩ := q61
                          have ha := own_rk2 (v19 + 1) (0 : Int32) v20 (by omega) (by omega) (by omega)
                          rw [← q61] at ha
                          refine o_lstore W61 (L' := #[.val (.int x0), .val (.int x1), .val (.int x2), .val (.int x3), .val (.int (2 : Int32)), .val (.int v18), .val (.int v19), .val (.int v20), .val (.int v21), .val (.int v22), .val (.int v23), .val (.ref a45), .val (.ref a47), .val (.long r53), .second, .val (.long r54), .second, .val (.int (1 : Int32)), .val (.long r61), .second]) at_248 rfl (pc' := 250) rfl ?_
                          rw [hp6] at ha
                          rw [c0] at ha
                          have hb1 : (r53 + 1).toInt = r53.toInt + 1 := by rw [Jvm.Kit.i64_add (by omega) (by omega), d1]
                          refine o_lload W61 at_250 (v := r53) rfl (pc' := 252) rfl ?_
                          refine o_lconst W61 (v := (1 : Int64)) at_252 rfl (pc' := 253) rfl ?_
                          refine o_ladd W61 at_253 (pc' := 254) rfl ?_
                          refine o_lload W61 at_254 (v := r54) rfl (pc' := 256) rfl ?_
                          refine o_lcmp_ge W61 at_256 (pc1 := 257) rfl at_257 (by decide) (pq := 281) (by decide) (pc' := 260) rfl (fun hc256 => ?_) (fun hc256 => ?_)
                          · exfalso; omega
                          · refine o_iload W61 at_260 (v := (1 : Int32)) rfl (pc' := 262) rfl ?_
                            refine o_if_eq W61 at_262 (by decide) (pq := 279) (by decide) (pc' := 265) rfl (fun hc262 => ?_) (fun hc262 => ?_)
                            · exact absurd hc262 (by decide)
                            · refine o_lload W61 at_265 (v := r61) rfl (pc' := 267) rfl ?_
                              refine o_lload W61 at_267 (v := r53) rfl (pc' := 269) rfl ?_
                              refine o_lconst W61 (v := (1 : Int64)) at_269 rfl (pc' := 270) rfl ?_
                              refine o_ladd W61 at_270 (pc' := 271) rfl ?_
                              refine o_lcmp_ne W61 at_271 (pc1 := 272) rfl at_272 (by decide) (pq := 279) (by decide) (pc' := 275) rfl (fun hc271 => ?_) (fun hc271 => ?_)
                              · exfalso; omega
                              · refine o_iconst W61 (v := (1 : Int32)) at_275 rfl (pc' := 276) rfl ?_
                                refine o_goto W61 at_276 (by decide) (pq := 280) (by decide) ?_
                                refine o_retN W61 (t := .boolean) rfl (by simp) at_280 (by decide) (by decide) ?_
                                exact rfl
                        · exact absurd hc213 (by decide)
                      · exfalso
                        rcases q60 with ⟨rfl, u⟩ | ⟨rfl, u⟩ <;> omega
                · exfalso
                  rcases q59 with ⟨rfl, u⟩ | ⟨rfl, u⟩ <;> omega
          · have pq := pp2 (by omega) (by omega)
            refine o_iload W55 at_153 (v := (2 : Int32)) rfl (pc' := 155) rfl ?_
            refine o_if_le W55 at_155 (by decide) (pq := 181) (by decide) (pc' := 158) rfl (fun hc155 => ?_) (fun hc155 => ?_)
            · exact absurd hc155 (by decide)
            · refine o_aload W55 at_158 (v := (.ref a45)) rfl rfl (pc' := 160) rfl ?_
              refine o_iconst W55 (v := (0 : Int32)) at_160 rfl (pc' := 161) rfl ?_
              refine o_iaload W55 AL_55 at_161 (pc' := 162) rfl (i := 0) (v := v18) rfl rfl ?_
              refine o_iload W55 at_162 (v := v18) rfl (pc' := 164) rfl ?_
              refine o_icmp_ne W55 at_164 (by decide) (pq := 179) (by decide) (pc' := 167) rfl (fun hc164 => ?_) (fun hc164 => ?_)
              · exact absurd rfl hc164
              · refine o_aload W55 at_167 (v := (.ref a47)) rfl rfl (pc' := 169) rfl ?_
                refine o_iconst W55 (v := (0 : Int32)) at_169 rfl (pc' := 170) rfl ?_
                refine o_iaload W55 AP at_170 (pc' := 171) rfl (i := 0) (v := (0 : Int32)) rfl rfl ?_
                refine o_iload W55 at_171 (v := v18) rfl (pc' := 173) rfl ?_
                refine o_callSI W55 (rm4 l Z a0 hw (0 : Int32) v18 h55 n0 W55.le) (ow hw 12 rfl) (ow hw 13 rfl) (ow hw 3 rfl) (ow hw 14 rfl) (by decide) (argsL := [(.int (0 : Int32)), (.int v18)]) (S := []) (lenOf own_pd3 rfl) rfl rfl rfl (wt := 0) rfl (by decide) (by decide) (by decide) (by decide) (kk' := 2) rfl (nn' := 4) rfl at_173 (pc' := 176) rfl ?_
                intro r62 T62 h62 W62 q62 z62
                obtain ⟨q62, rfl⟩ := q62
                refine o_if_ne W62 at_176 (by decide) (pq := 181) (by decide) (pc' := 179) rfl (fun hc176 => ?_) (fun hc176 => ?_)
                · refine o_iload W62 at_181 (v := (2 : Int32)) rfl (pc' := 183) rfl ?_
                  refine o_iconst W62 (v := (1 : Int32)) at_183 rfl (pc' := 184) rfl ?_
                  refine o_icmp_le W62 at_184 (by decide) (pq := 210) (by decide) (pc' := 187) rfl (fun hc184 => ?_) (fun hc184 => ?_)
                  · exact absurd hc184 (by decide)
                  · refine o_aload W62 at_187 (v := (.ref a45)) rfl rfl (pc' := 189) rfl ?_
                    refine o_iconst W62 (v := (1 : Int32)) at_189 rfl (pc' := 190) rfl ?_
                    refine o_iaload W62 AL_55 at_190 (pc' := 191) rfl (i := 1) (v := v20) rfl rfl ?_
                    refine o_iload W62 at_191 (v := v20) rfl (pc' := 193) rfl ?_
                    refine o_icmp_ne W62 at_193 (by decide) (pq := 208) (by decide) (pc' := 196) rfl (fun hc193 => ?_) (fun hc193 => ?_)
                    · exact absurd rfl hc193
                    · refine o_aload W62 at_196 (v := (.ref a47)) rfl rfl (pc' := 198) rfl ?_
                      refine o_iconst W62 (v := (1 : Int32)) at_198 rfl (pc' := 199) rfl ?_
                      refine o_iaload W62 AP at_199 (pc' := 200) rfl (i := 1) (v := (0 : Int32)) rfl rfl ?_
                      refine o_iload W62 at_200 (v := v20) rfl (pc' := 202) rfl ?_
                      refine o_callSI W62 (rm4 l Z a0 hw (0 : Int32) v20 h55 n0 W62.le) (ow hw 12 rfl) (ow hw 13 rfl) (ow hw 3 rfl) (ow hw 14 rfl) (by decide) (argsL := [(.int (0 : Int32)), (.int v20)]) (S := []) (lenOf own_pd3 rfl) rfl rfl rfl (wt := 0) rfl (by decide) (by decide) (by decide) (by decide) (kk' := 2) rfl (nn' := 4) rfl at_202 (pc' := 205) rfl ?_
                      intro r63 T63 h63 W63 q63 z63
                      obtain ⟨q63, rfl⟩ := q63
                      refine o_if_ne W63 at_205 (by decide) (pq := 210) (by decide) (pc' := 208) rfl (fun hc205 => ?_) (fun hc205 => ?_)
                      · refine o_iload W63 at_210 (v := (2 : Int32)) rfl (pc' := 212) rfl ?_
                        refine o_iconst W63 (v := (2 : Int32)) at_212 rfl (pc' := 213) rfl ?_
                        refine o_icmp_le W63 at_213 (by decide) (pq := 239) (by decide) (pc' := 216) rfl (fun hc213 => ?_) (fun hc213 => ?_)
                        · refine o_iload W63 at_239 (v := (2 : Int32)) rfl (pc' := 241) rfl ?_
                          refine o_aload W63 at_241 (v := (.ref a47)) rfl rfl (pc' := 243) rfl ?_
                          refine o_aload W63 at_243 (v := (.ref a45)) rfl rfl (pc' := 245) rfl ?_
                          refine o_callSJ W63 (rm1_2 l Z a0 hw a47 a45 h55 n0 W63.le _ _ _ _  AP AL_55) (ow hw 1 rfl) (ow hw 2 rfl) (ow hw 3 rfl) (ow hw 4 rfl) (by decide) (argsL := [(.int (2 : Int32)), (.ref a47), (.ref a45)]) (S := []) (lenOf own_pd0 rfl) rfl rfl rfl (wt := 0) rfl (by decide) (by decide) (by decide) (by decide) (kk' := 2) rfl (nn' := 4) rfl at_245 (pc' := 248) rfl ?_
                          intro r64 T64 h64 W64 q64 z64
                          obtain ⟨q64, rfl⟩ := q64
                          have ha := own_rk2 (0 : Int32) (0 : Int32) v20 (by omega) (by omega) (by omega)
                          rw [← q64] at ha
                          refine o_lstore W64 (L' := #[.val (.int x0), .val (.int x1), .val (.int x2), .val (.int x3), .val (.int (2 : Int32)), .val (.int v18), .val (.int v19), .val (.int v20), .val (.int v21), .val (.int v22), .val (.int v23), .val (.ref a45), .val (.ref a47), .val (.long r53), .second, .val (.long r54), .second, .val (.int (0 : Int32)), .val (.long r64), .second]) at_248 rfl (pc' := 250) rfl ?_
                          rw [c0] at ha
                          have hb1 : (r53 + 1).toInt = r53.toInt + 1 := by rw [Jvm.Kit.i64_add (by omega) (by omega), d1]
                          refine o_lload W64 at_250 (v := r53) rfl (pc' := 252) rfl ?_
                          refine o_lconst W64 (v := (1 : Int64)) at_252 rfl (pc' := 253) rfl ?_
                          refine o_ladd W64 at_253 (pc' := 254) rfl ?_
                          refine o_lload W64 at_254 (v := r54) rfl (pc' := 256) rfl ?_
                          refine o_lcmp_ge W64 at_256 (pc1 := 257) rfl at_257 (by decide) (pq := 281) (by decide) (pc' := 260) rfl (fun hc256 => ?_) (fun hc256 => ?_)
                          · refine o_iload W64 at_281 (v := (0 : Int32)) rfl (pc' := 283) rfl ?_
                            refine o_if_ne W64 at_283 (by decide) (pq := 297) (by decide) (pc' := 286) rfl (fun hc283 => ?_) (fun hc283 => ?_)
                            · exact absurd hc283 (by decide)
                            · refine o_lload W64 at_286 (v := r64) rfl (pc' := 288) rfl ?_
                              refine o_lconst W64 (v := (0 : Int64)) at_288 rfl (pc' := 289) rfl ?_
                              refine o_lcmp_ne W64 at_289 (pc1 := 290) rfl at_290 (by decide) (pq := 297) (by decide) (pc' := 293) rfl (fun hc289 => ?_) (fun hc289 => ?_)
                              · exfalso; omega
                              · refine o_iconst W64 (v := (1 : Int32)) at_293 rfl (pc' := 294) rfl ?_
                                refine o_goto W64 at_294 (by decide) (pq := 298) (by decide) ?_
                                refine o_retN W64 (t := .boolean) rfl (by simp) at_298 (by decide) (by decide) ?_
                                exact rfl
                          · exfalso; omega
                        · exact absurd hc213 (by decide)
                      · exfalso
                        rcases q63 with ⟨rfl, u⟩ | ⟨rfl, u⟩ <;> omega
                · exfalso
                  rcases q62 with ⟨rfl, u⟩ | ⟨rfl, u⟩ <;> omega
        · exact absurd hc109 (by decide)
  · refine o_iload W0 at_59 (v := (3 : Int32)) rfl (pc' := 61) rfl ?_
    refine o_newarray W0 (ty := .int) (len := 3) (cap := 3) (ow hw 0 rfl) rfl rfl rfl at_61 (pc' := 63) rfl rfl (by decide) (by decide) (by decide) (by decide) (kk' := 1) rfl (nn' := 3) rfl ?_
    intro T66 h66 a65 W66 E66 g_a65 A_a65
    have b_a65 : n0 ≤ a65 := by rw [g_a65]; exact W0.le
    have A_a65 : OA Z h66 a65 .int [0, 0, 0] := A_a65
    refine o_astore W66 (L' := #[.val (.int x0), .val (.int x1), .val (.int x2), .val (.int x3), .val (.int (3 : Int32)), .val (.int v18), .val (.int v19), .val (.int v20), .val (.int v21), .val (.int v22), .val (.int v23), .val (.ref a65), .unset, .unset, .unset, .unset, .unset, .unset, .unset, .unset]) at_63 rfl rfl (pc' := 65) rfl ?_
    refine o_iload W66 at_65 (v := (3 : Int32)) rfl (pc' := 67) rfl ?_
    refine o_newarray W66 (ty := .int) (len := 3) (cap := 3) (ow hw 0 rfl) rfl rfl rfl at_67 (pc' := 69) rfl rfl (by decide) (by decide) (by decide) (by decide) (kk' := 2) rfl (nn' := 6) rfl ?_
    intro T68 h68 a67 W68 E68 g_a67 A_a67
    have b_a67 : n0 ≤ a67 := by rw [g_a67]; exact W66.le
    have ne_a65_a67 : a65 ≠ a67 := Nat.ne_of_lt (Nat.lt_of_lt_of_le A_a65.lt (Nat.le_of_eq g_a67.symm))
    have A_a65_68 := A_a65.ext E68
    have A_a67 : OA Z h68 a67 .int [0, 0, 0] := A_a67
    refine o_astore W68 (L' := #[.val (.int x0), .val (.int x1), .val (.int x2), .val (.int x3), .val (.int (3 : Int32)), .val (.int v18), .val (.int v19), .val (.int v20), .val (.int v21), .val (.int v22), .val (.int v23), .val (.ref a65), .val (.ref a67), .unset, .unset, .unset, .unset, .unset, .unset, .unset]) at_69 rfl rfl (pc' := 71) rfl ?_
    refine o_iload W68 at_71 (v := (3 : Int32)) rfl (pc' := 73) rfl ?_
    refine o_if_le W68 at_73 (by decide) (pq := 88) (by decide) (pc' := 76) rfl (fun hc73 => ?_) (fun hc73 => ?_)
    · exact absurd hc73 (by decide)
    · refine o_aload W68 at_76 (v := (.ref a65)) rfl rfl (pc' := 78) rfl ?_
      refine o_iconst W68 (v := (0 : Int32)) at_78 rfl (pc' := 79) rfl ?_
      refine o_iload W68 at_79 (v := v18) rfl (pc' := 81) rfl ?_
      refine o_iastore W68 A_a65_68 b_a65 at_81 (pc' := 82) rfl (i := 0) rfl (Nat.le_of_ble_eq_true rfl) ?_
      intro T69 h69 W69 K69 A_a65_69
      have A_a67_69 := A_a67.keep1 K69 ne_a65_a67.symm
      have A_a65_69 : OA Z h69 a65 .int [v18, 0, 0] := A_a65_69
      refine o_aload W69 at_82 (v := (.ref a67)) rfl rfl (pc' := 84) rfl ?_
      refine o_iconst W69 (v := (0 : Int32)) at_84 rfl (pc' := 85) rfl ?_
      refine o_iload W69 at_85 (v := v19) rfl (pc' := 87) rfl ?_
      refine o_iastore W69 A_a67_69 b_a67 at_87 (pc' := 88) rfl (i := 0) rfl (Nat.le_of_ble_eq_true rfl) ?_
      intro T70 h70 W70 K70 A_a67_70
      have A_a65_70 := A_a65_69.keep1 K70 ne_a65_a67
      have A_a67_70 : OA Z h70 a67 .int [v19, 0, 0] := A_a67_70
      refine o_iload W70 at_88 (v := (3 : Int32)) rfl (pc' := 90) rfl ?_
      refine o_iconst W70 (v := (1 : Int32)) at_90 rfl (pc' := 91) rfl ?_
      refine o_icmp_le W70 at_91 (by decide) (pq := 106) (by decide) (pc' := 94) rfl (fun hc91 => ?_) (fun hc91 => ?_)
      · exact absurd hc91 (by decide)
      · refine o_aload W70 at_94 (v := (.ref a65)) rfl rfl (pc' := 96) rfl ?_
        refine o_iconst W70 (v := (1 : Int32)) at_96 rfl (pc' := 97) rfl ?_
        refine o_iload W70 at_97 (v := v20) rfl (pc' := 99) rfl ?_
        refine o_iastore W70 A_a65_70 b_a65 at_99 (pc' := 100) rfl (i := 1) rfl (Nat.le_of_ble_eq_true rfl) ?_
        intro T71 h71 W71 K71 A_a65_71
        have A_a67_71 := A_a67_70.keep1 K71 ne_a65_a67.symm
        have A_a65_71 : OA Z h71 a65 .int [v18, v20, 0] := A_a65_71
        refine o_aload W71 at_100 (v := (.ref a67)) rfl rfl (pc' := 102) rfl ?_
        refine o_iconst W71 (v := (1 : Int32)) at_102 rfl (pc' := 103) rfl ?_
        refine o_iload W71 at_103 (v := v21) rfl (pc' := 105) rfl ?_
        refine o_iastore W71 A_a67_71 b_a67 at_105 (pc' := 106) rfl (i := 1) rfl (Nat.le_of_ble_eq_true rfl) ?_
        intro T72 h72 W72 K72 A_a67_72
        have A_a65_72 := A_a65_71.keep1 K72 ne_a65_a67
        have A_a67_72 : OA Z h72 a67 .int [v19, v21, 0] := A_a67_72
        refine o_iload W72 at_106 (v := (3 : Int32)) rfl (pc' := 108) rfl ?_
        refine o_iconst W72 (v := (2 : Int32)) at_108 rfl (pc' := 109) rfl ?_
        refine o_icmp_le W72 at_109 (by decide) (pq := 124) (by decide) (pc' := 112) rfl (fun hc109 => ?_) (fun hc109 => ?_)
        · exact absurd hc109 (by decide)
        · refine o_aload W72 at_112 (v := (.ref a65)) rfl rfl (pc' := 114) rfl ?_
          refine o_iconst W72 (v := (2 : Int32)) at_114 rfl (pc' := 115) rfl ?_
          refine o_iload W72 at_115 (v := v22) rfl (pc' := 117) rfl ?_
          refine o_iastore W72 A_a65_72 b_a65 at_117 (pc' := 118) rfl (i := 2) rfl (Nat.le_of_ble_eq_true rfl) ?_
          intro T73 h73 W73 K73 A_a65_73
          have A_a67_73 := A_a67_72.keep1 K73 ne_a65_a67.symm
          have A_a65_73 : OA Z h73 a65 .int [v18, v20, v22] := A_a65_73
          refine o_aload W73 at_118 (v := (.ref a67)) rfl rfl (pc' := 120) rfl ?_
          refine o_iconst W73 (v := (2 : Int32)) at_120 rfl (pc' := 121) rfl ?_
          refine o_iload W73 at_121 (v := v23) rfl (pc' := 123) rfl ?_
          refine o_iastore W73 A_a67_73 b_a67 at_123 (pc' := 124) rfl (i := 2) rfl (Nat.le_of_ble_eq_true rfl) ?_
          intro T74 h74 W74 K74 A_a67_74
          have A_a65_74 := A_a65_73.keep1 K74 ne_a65_a67
          have A_a67_74 : OA Z h74 a67 .int [v19, v21, v23] := A_a67_74
          refine o_iload W74 at_124 (v := (3 : Int32)) rfl (pc' := 126) rfl ?_
          refine o_aload W74 at_126 (v := (.ref a67)) rfl rfl (pc' := 128) rfl ?_
          refine o_aload W74 at_128 (v := (.ref a65)) rfl rfl (pc' := 130) rfl ?_
          refine o_callSJ W74 (rm1_3 l Z a0 hw a67 a65 h74 n0 W74.le _ _ _ _ _ _  A_a67_74 A_a65_74) (ow hw 1 rfl) (ow hw 2 rfl) (ow hw 3 rfl) (ow hw 4 rfl) (by decide) (argsL := [(.int (3 : Int32)), (.ref a67), (.ref a65)]) (S := []) (lenOf own_pd0 rfl) rfl rfl rfl (wt := 0) rfl (by decide) (by decide) (by decide) (by decide) (kk' := 2) rfl (nn' := 6) rfl at_130 (pc' := 133) rfl ?_
          intro r75 T75 h75 W75 q75 z75
          obtain ⟨q75, rfl⟩ := q75
          have hb := own_rk3 v19 v21 v23 v20 v22 (by omega) (by omega) (by omega) (by omega) (by omega)
          rw [← q75] at hb
          refine o_lstore W75 (L' := #[.val (.int x0), .val (.int x1), .val (.int x2), .val (.int x3), .val (.int (3 : Int32)), .val (.int v18), .val (.int v19), .val (.int v20), .val (.int v21), .val (.int v22), .val (.int v23), .val (.ref a65), .val (.ref a67), .val (.long r75), .second, .unset, .unset, .unset, .unset, .unset]) at_133 rfl (pc' := 135) rfl ?_
          refine o_iload W75 at_135 (v := (3 : Int32)) rfl (pc' := 137) rfl ?_
          refine o_aload W75 at_137 (v := (.ref a65)) rfl rfl (pc' := 139) rfl ?_
          refine o_callSJ W75 (rm2_3 l Z a0 hw a65 h74 n0 W75.le _ _ _  A_a65_74) (ow hw 5 rfl) (ow hw 6 rfl) (ow hw 3 rfl) (ow hw 7 rfl) (by decide) (argsL := [(.int (3 : Int32)), (.ref a65)]) (S := []) (lenOf own_pd1 rfl) rfl rfl rfl (wt := 0) rfl (by decide) (by decide) (by decide) (by decide) (kk' := 2) rfl (nn' := 6) rfl at_139 (pc' := 142) rfl ?_
          intro r76 T76 h76 W76 q76 z76
          obtain ⟨q76, rfl⟩ := q76
          have ht := own_t3 v18 v20 v22 (by omega) (by omega) (by omega)
          rw [← q76] at ht
          refine o_lstore W76 (L' := #[.val (.int x0), .val (.int x1), .val (.int x2), .val (.int x3), .val (.int (3 : Int32)), .val (.int v18), .val (.int v19), .val (.int v20), .val (.int v21), .val (.int v22), .val (.int v23), .val (.ref a65), .val (.ref a67), .val (.long r75), .second, .val (.long r76), .second, .unset, .unset, .unset]) at_142 rfl (pc' := 144) rfl ?_
          refine o_aload W76 at_144 (v := (.ref a67)) rfl rfl (pc' := 146) rfl ?_
          refine o_aload W76 at_146 (v := (.ref a65)) rfl rfl (pc' := 148) rfl ?_
          refine o_callSI W76 (rm3_3 l Z a0 hw a67 a65 h74 n0 W76.le _ _ _ _ _ _  A_a67_74 A_a65_74 b_a67 ne_a65_a67) (ow hw 8 rfl) (ow hw 9 rfl) (ow hw 10 rfl) (ow hw 11 rfl) (by decide) (argsL := [(.ref a67), (.ref a65)]) (S := []) (lenOf own_pd2 rfl) rfl rfl rfl (wt := 0) rfl (by decide) (by decide) (by decide) (by decide) (kk' := 2) rfl (nn' := 6) rfl at_148 (pc' := 151) rfl ?_
          intro r77 T77 h77 W77 q77 z77
          obtain ⟨KP, q77⟩ := q77
          have AL_77 := A_a65_74.keep1 KP ne_a65_a67
          refine o_istore W77 (L' := #[.val (.int x0), .val (.int x1), .val (.int x2), .val (.int x3), .val (.int (3 : Int32)), .val (.int v18), .val (.int v19), .val (.int v20), .val (.int v21), .val (.int v22), .val (.int v23), .val (.ref a65), .val (.ref a67), .val (.long r75), .second, .val (.long r76), .second, .val (.int r77), .unset, .unset]) at_151 rfl (pc' := 153) rfl ?_
          obtain ⟨pp0, pp1, pp2, pp3⟩ := own_n3 v19.toInt v21.toInt v23.toInt v18.toInt v20.toInt v22.toInt (by omega) (by omega) (by omega)
          rcases q77 with ⟨rfl, AP, hq⟩ | ⟨rfl, AP, hq⟩ | ⟨rfl, AP, hq⟩ | ⟨rfl, AP, hq⟩
          · have pq := pp0 (by omega)
            refine o_iload W77 at_153 (v := (3 : Int32)) rfl (pc' := 155) rfl ?_
            refine o_if_le W77 at_155 (by decide) (pq := 181) (by decide) (pc' := 158) rfl (fun hc155 => ?_) (fun hc155 => ?_)
            · exact absurd hc155 (by decide)
            · refine o_aload W77 at_158 (v := (.ref a65)) rfl rfl (pc' := 160) rfl ?_
              refine o_iconst W77 (v := (0 : Int32)) at_160 rfl (pc' := 161) rfl ?_
              refine o_iaload W77 AL_77 at_161 (pc' := 162) rfl (i := 0) (v := v18) rfl rfl ?_
              refine o_iload W77 at_162 (v := v18) rfl (pc' := 164) rfl ?_
              refine o_icmp_ne W77 at_164 (by decide) (pq := 179) (by decide) (pc' := 167) rfl (fun hc164 => ?_) (fun hc164 => ?_)
              · exact absurd rfl hc164
              · refine o_aload W77 at_167 (v := (.ref a67)) rfl rfl (pc' := 169) rfl ?_
                refine o_iconst W77 (v := (0 : Int32)) at_169 rfl (pc' := 170) rfl ?_
                refine o_iaload W77 AP at_170 (pc' := 171) rfl (i := 0) (v := v19) rfl rfl ?_
                refine o_iload W77 at_171 (v := v18) rfl (pc' := 173) rfl ?_
                refine o_callSI W77 (rm4 l Z a0 hw v19 v18 h77 n0 W77.le) (ow hw 12 rfl) (ow hw 13 rfl) (ow hw 3 rfl) (ow hw 14 rfl) (by decide) (argsL := [(.int v19), (.int v18)]) (S := []) (lenOf own_pd3 rfl) rfl rfl rfl (wt := 0) rfl (by decide) (by decide) (by decide) (by decide) (kk' := 2) rfl (nn' := 6) rfl at_173 (pc' := 176) rfl ?_
                intro r78 T78 h78 W78 q78 z78
                obtain ⟨q78, rfl⟩ := q78
                refine o_if_ne W78 at_176 (by decide) (pq := 181) (by decide) (pc' := 179) rfl (fun hc176 => ?_) (fun hc176 => ?_)
                · refine o_iload W78 at_181 (v := (3 : Int32)) rfl (pc' := 183) rfl ?_
                  refine o_iconst W78 (v := (1 : Int32)) at_183 rfl (pc' := 184) rfl ?_
                  refine o_icmp_le W78 at_184 (by decide) (pq := 210) (by decide) (pc' := 187) rfl (fun hc184 => ?_) (fun hc184 => ?_)
                  · exact absurd hc184 (by decide)
                  · refine o_aload W78 at_187 (v := (.ref a65)) rfl rfl (pc' := 189) rfl ?_
                    refine o_iconst W78 (v := (1 : Int32)) at_189 rfl (pc' := 190) rfl ?_
                    refine o_iaload W78 AL_77 at_190 (pc' := 191) rfl (i := 1) (v := v20) rfl rfl ?_
                    refine o_iload W78 at_191 (v := v20) rfl (pc' := 193) rfl ?_
                    refine o_icmp_ne W78 at_193 (by decide) (pq := 208) (by decide) (pc' := 196) rfl (fun hc193 => ?_) (fun hc193 => ?_)
                    · exact absurd rfl hc193
                    · refine o_aload W78 at_196 (v := (.ref a67)) rfl rfl (pc' := 198) rfl ?_
                      refine o_iconst W78 (v := (1 : Int32)) at_198 rfl (pc' := 199) rfl ?_
                      refine o_iaload W78 AP at_199 (pc' := 200) rfl (i := 1) (v := v21) rfl rfl ?_
                      refine o_iload W78 at_200 (v := v20) rfl (pc' := 202) rfl ?_
                      refine o_callSI W78 (rm4 l Z a0 hw v21 v20 h77 n0 W78.le) (ow hw 12 rfl) (ow hw 13 rfl) (ow hw 3 rfl) (ow hw 14 rfl) (by decide) (argsL := [(.int v21), (.int v20)]) (S := []) (lenOf own_pd3 rfl) rfl rfl rfl (wt := 0) rfl (by decide) (by decide) (by decide) (by decide) (kk' := 2) rfl (nn' := 6) rfl at_202 (pc' := 205) rfl ?_
                      intro r79 T79 h79 W79 q79 z79
                      obtain ⟨q79, rfl⟩ := q79
                      refine o_if_ne W79 at_205 (by decide) (pq := 210) (by decide) (pc' := 208) rfl (fun hc205 => ?_) (fun hc205 => ?_)
                      · refine o_iload W79 at_210 (v := (3 : Int32)) rfl (pc' := 212) rfl ?_
                        refine o_iconst W79 (v := (2 : Int32)) at_212 rfl (pc' := 213) rfl ?_
                        refine o_icmp_le W79 at_213 (by decide) (pq := 239) (by decide) (pc' := 216) rfl (fun hc213 => ?_) (fun hc213 => ?_)
                        · exact absurd hc213 (by decide)
                        · refine o_aload W79 at_216 (v := (.ref a65)) rfl rfl (pc' := 218) rfl ?_
                          refine o_iconst W79 (v := (2 : Int32)) at_218 rfl (pc' := 219) rfl ?_
                          refine o_iaload W79 AL_77 at_219 (pc' := 220) rfl (i := 2) (v := v22) rfl rfl ?_
                          refine o_iload W79 at_220 (v := v22) rfl (pc' := 222) rfl ?_
                          refine o_icmp_ne W79 at_222 (by decide) (pq := 237) (by decide) (pc' := 225) rfl (fun hc222 => ?_) (fun hc222 => ?_)
                          · exact absurd rfl hc222
                          · refine o_aload W79 at_225 (v := (.ref a67)) rfl rfl (pc' := 227) rfl ?_
                            refine o_iconst W79 (v := (2 : Int32)) at_227 rfl (pc' := 228) rfl ?_
                            refine o_iaload W79 AP at_228 (pc' := 229) rfl (i := 2) (v := (v23 + 1)) rfl rfl ?_
                            refine o_iload W79 at_229 (v := v22) rfl (pc' := 231) rfl ?_
                            refine o_callSI W79 (rm4 l Z a0 hw (v23 + 1) v22 h77 n0 W79.le) (ow hw 12 rfl) (ow hw 13 rfl) (ow hw 3 rfl) (ow hw 14 rfl) (by decide) (argsL := [(.int (v23 + 1)), (.int v22)]) (S := []) (lenOf own_pd3 rfl) rfl rfl rfl (wt := 0) rfl (by decide) (by decide) (by decide) (by decide) (kk' := 2) rfl (nn' := 6) rfl at_231 (pc' := 234) rfl ?_
                            intro r80 T80 h80 W80 q80 z80
                            obtain ⟨q80, rfl⟩ := q80
                            refine o_if_ne W80 at_234 (by decide) (pq := 239) (by decide) (pc' := 237) rfl (fun hc234 => ?_) (fun hc234 => ?_)
                            · refine o_iload W80 at_239 (v := (3 : Int32)) rfl (pc' := 241) rfl ?_
                              refine o_aload W80 at_241 (v := (.ref a67)) rfl rfl (pc' := 243) rfl ?_
                              refine o_aload W80 at_243 (v := (.ref a65)) rfl rfl (pc' := 245) rfl ?_
                              refine o_callSJ W80 (rm1_3 l Z a0 hw a67 a65 h77 n0 W80.le _ _ _ _ _ _  AP AL_77) (ow hw 1 rfl) (ow hw 2 rfl) (ow hw 3 rfl) (ow hw 4 rfl) (by decide) (argsL := [(.int (3 : Int32)), (.ref a67), (.ref a65)]) (S := []) (lenOf own_pd0 rfl) rfl rfl rfl (wt := 0) rfl (by decide) (by decide) (by decide) (by decide) (kk' := 2) rfl (nn' := 6) rfl at_245 (pc' := 248) rfl ?_
                              intro r81 T81 h81 W81 q81 z81
                              obtain ⟨q81, rfl⟩ := q81
                              have ha := own_rk3 v19 v21 (v23 + 1) v20 v22 (by omega) (by omega) (by omega) (by omega) (by omega)
                              rw [← q81] at ha
                              refine o_lstore W81 (L' := #[.val (.int x0), .val (.int x1), .val (.int x2), .val (.int x3), .val (.int (3 : Int32)), .val (.int v18), .val (.int v19), .val (.int v20), .val (.int v21), .val (.int v22), .val (.int v23), .val (.ref a65), .val (.ref a67), .val (.long r75), .second, .val (.long r76), .second, .val (.int (1 : Int32)), .val (.long r81), .second]) at_248 rfl (pc' := 250) rfl ?_
                              rw [hp10] at ha
                              have hb1 : (r75 + 1).toInt = r75.toInt + 1 := by rw [Jvm.Kit.i64_add (by omega) (by omega), d1]
                              refine o_lload W81 at_250 (v := r75) rfl (pc' := 252) rfl ?_
                              refine o_lconst W81 (v := (1 : Int64)) at_252 rfl (pc' := 253) rfl ?_
                              refine o_ladd W81 at_253 (pc' := 254) rfl ?_
                              refine o_lload W81 at_254 (v := r76) rfl (pc' := 256) rfl ?_
                              refine o_lcmp_ge W81 at_256 (pc1 := 257) rfl at_257 (by decide) (pq := 281) (by decide) (pc' := 260) rfl (fun hc256 => ?_) (fun hc256 => ?_)
                              · exfalso; omega
                              · refine o_iload W81 at_260 (v := (1 : Int32)) rfl (pc' := 262) rfl ?_
                                refine o_if_eq W81 at_262 (by decide) (pq := 279) (by decide) (pc' := 265) rfl (fun hc262 => ?_) (fun hc262 => ?_)
                                · exact absurd hc262 (by decide)
                                · refine o_lload W81 at_265 (v := r81) rfl (pc' := 267) rfl ?_
                                  refine o_lload W81 at_267 (v := r75) rfl (pc' := 269) rfl ?_
                                  refine o_lconst W81 (v := (1 : Int64)) at_269 rfl (pc' := 270) rfl ?_
                                  refine o_ladd W81 at_270 (pc' := 271) rfl ?_
                                  refine o_lcmp_ne W81 at_271 (pc1 := 272) rfl at_272 (by decide) (pq := 279) (by decide) (pc' := 275) rfl (fun hc271 => ?_) (fun hc271 => ?_)
                                  · exfalso; omega
                                  · refine o_iconst W81 (v := (1 : Int32)) at_275 rfl (pc' := 276) rfl ?_
                                    refine o_goto W81 at_276 (by decide) (pq := 280) (by decide) ?_
                                    refine o_retN W81 (t := .boolean) rfl (by simp) at_280 (by decide) (by decide) ?_
                                    exact rfl
                            · exfalso
                              rcases q80 with ⟨rfl, u⟩ | ⟨rfl, u⟩ <;> omega
                      · exfalso
                        rcases q79 with ⟨rfl, u⟩ | ⟨rfl, u⟩ <;> omega
                · exfalso
                  rcases q78 with ⟨rfl, u⟩ | ⟨rfl, u⟩ <;> omega
          · have pq := pp1 (by omega) (by omega)
            refine o_iload W77 at_153 (v := (3 : Int32)) rfl (pc' := 155) rfl ?_
            refine o_if_le W77 at_155 (by decide) (pq := 181) (by decide) (pc' := 158) rfl (fun hc155 => ?_) (fun hc155 => ?_)
            · exact absurd hc155 (by decide)
            · refine o_aload W77 at_158 (v := (.ref a65)) rfl rfl (pc' := 160) rfl ?_
              refine o_iconst W77 (v := (0 : Int32)) at_160 rfl (pc' := 161) rfl ?_
              refine o_iaload W77 AL_77 at_161 (pc' := 162) rfl (i := 0) (v := v18) rfl rfl ?_
              refine o_iload W77 at_162 (v := v18) rfl (pc' := 164) rfl ?_
              refine o_icmp_ne W77 at_164 (by decide) (pq := 179) (by decide) (pc' := 167) rfl (fun hc164 => ?_) (fun hc164 => ?_)
              · exact absurd rfl hc164
              · refine o_aload W77 at_167 (v := (.ref a67)) rfl rfl (pc' := 169) rfl ?_
                refine o_iconst W77 (v := (0 : Int32)) at_169 rfl (pc' := 170) rfl ?_
                refine o_iaload W77 AP at_170 (pc' := 171) rfl (i := 0) (v := v19) rfl rfl ?_
                refine o_iload W77 at_171 (v := v18) rfl (pc' := 173) rfl ?_
                refine o_callSI W77 (rm4 l Z a0 hw v19 v18 h77 n0 W77.le) (ow hw 12 rfl) (ow hw 13 rfl) (ow hw 3 rfl) (ow hw 14 rfl) (by decide) (argsL := [(.int v19), (.int v18)]) (S := []) (lenOf own_pd3 rfl) rfl rfl rfl (wt := 0) rfl (by decide) (by decide) (by decide) (by decide) (kk' := 2) rfl (nn' := 6) rfl at_173 (pc' := 176) rfl ?_
                intro r82 T82 h82 W82 q82 z82
                obtain ⟨q82, rfl⟩ := q82
                refine o_if_ne W82 at_176 (by decide) (pq := 181) (by decide) (pc' := 179) rfl (fun hc176 => ?_) (fun hc176 => ?_)
                · refine o_iload W82 at_181 (v := (3 : Int32)) rfl (pc' := 183) rfl ?_
                  refine o_iconst W82 (v := (1 : Int32)) at_183 rfl (pc' := 184) rfl ?_
                  refine o_icmp_le W82 at_184 (by decide) (pq := 210) (by decide) (pc' := 187) rfl (fun hc184 => ?_) (fun hc184 => ?_)
                  · exact absurd hc184 (by decide)
                  · refine o_aload W82 at_187 (v := (.ref a65)) rfl rfl (pc' := 189) rfl ?_
                    refine o_iconst W82 (v := (1 : Int32)) at_189 rfl (pc' := 190) rfl ?_
                    refine o_iaload W82 AL_77 at_190 (pc' := 191) rfl (i := 1) (v := v20) rfl rfl ?_
                    refine o_iload W82 at_191 (v := v20) rfl (pc' := 193) rfl ?_
                    refine o_icmp_ne W82 at_193 (by decide) (pq := 208) (by decide) (pc' := 196) rfl (fun hc193 => ?_) (fun hc193 => ?_)
                    · exact absurd rfl hc193
                    · refine o_aload W82 at_196 (v := (.ref a67)) rfl rfl (pc' := 198) rfl ?_
                      refine o_iconst W82 (v := (1 : Int32)) at_198 rfl (pc' := 199) rfl ?_
                      refine o_iaload W82 AP at_199 (pc' := 200) rfl (i := 1) (v := (v21 + 1)) rfl rfl ?_
                      refine o_iload W82 at_200 (v := v20) rfl (pc' := 202) rfl ?_
                      refine o_callSI W82 (rm4 l Z a0 hw (v21 + 1) v20 h77 n0 W82.le) (ow hw 12 rfl) (ow hw 13 rfl) (ow hw 3 rfl) (ow hw 14 rfl) (by decide) (argsL := [(.int (v21 + 1)), (.int v20)]) (S := []) (lenOf own_pd3 rfl) rfl rfl rfl (wt := 0) rfl (by decide) (by decide) (by decide) (by decide) (kk' := 2) rfl (nn' := 6) rfl at_202 (pc' := 205) rfl ?_
                      intro r83 T83 h83 W83 q83 z83
                      obtain ⟨q83, rfl⟩ := q83
                      refine o_if_ne W83 at_205 (by decide) (pq := 210) (by decide) (pc' := 208) rfl (fun hc205 => ?_) (fun hc205 => ?_)
                      · refine o_iload W83 at_210 (v := (3 : Int32)) rfl (pc' := 212) rfl ?_
                        refine o_iconst W83 (v := (2 : Int32)) at_212 rfl (pc' := 213) rfl ?_
                        refine o_icmp_le W83 at_213 (by decide) (pq := 239) (by decide) (pc' := 216) rfl (fun hc213 => ?_) (fun hc213 => ?_)
                        · exact absurd hc213 (by decide)
                        · refine o_aload W83 at_216 (v := (.ref a65)) rfl rfl (pc' := 218) rfl ?_
                          refine o_iconst W83 (v := (2 : Int32)) at_218 rfl (pc' := 219) rfl ?_
                          refine o_iaload W83 AL_77 at_219 (pc' := 220) rfl (i := 2) (v := v22) rfl rfl ?_
                          refine o_iload W83 at_220 (v := v22) rfl (pc' := 222) rfl ?_
                          refine o_icmp_ne W83 at_222 (by decide) (pq := 237) (by decide) (pc' := 225) rfl (fun hc222 => ?_) (fun hc222 => ?_)
                          · exact absurd rfl hc222
                          · refine o_aload W83 at_225 (v := (.ref a67)) rfl rfl (pc' := 227) rfl ?_
                            refine o_iconst W83 (v := (2 : Int32)) at_227 rfl (pc' := 228) rfl ?_
                            refine o_iaload W83 AP at_228 (pc' := 229) rfl (i := 2) (v := (0 : Int32)) rfl rfl ?_
                            refine o_iload W83 at_229 (v := v22) rfl (pc' := 231) rfl ?_
                            refine o_callSI W83 (rm4 l Z a0 hw (0 : Int32) v22 h77 n0 W83.le) (ow hw 12 rfl) (ow hw 13 rfl) (ow hw 3 rfl) (ow hw 14 rfl) (by decide) (argsL := [(.int (0 : Int32)), (.int v22)]) (S := []) (lenOf own_pd3 rfl) rfl rfl rfl (wt := 0) rfl (by decide) (by decide) (by decide) (by decide) (kk' := 2) rfl (nn' := 6) rfl at_231 (pc' := 234) rfl ?_
                            intro r84 T84 h84 W84 q84 z84
                            obtain ⟨q84, rfl⟩ := q84
                            refine o_if_ne W84 at_234 (by decide) (pq := 239) (by decide) (pc' := 237) rfl (fun hc234 => ?_) (fun hc234 => ?_)
                            · refine o_iload W84 at_239 (v := (3 : Int32)) rfl (pc' := 241) rfl ?_
                              refine o_aload W84 at_241 (v := (.ref a67)) rfl rfl (pc' := 243) rfl ?_
                              refine o_aload W84 at_243 (v := (.ref a65)) rfl rfl (pc' := 245) rfl ?_
                              refine o_callSJ W84 (rm1_3 l Z a0 hw a67 a65 h77 n0 W84.le _ _ _ _ _ _  AP AL_77) (ow hw 1 rfl) (ow hw 2 rfl) (ow hw 3 rfl) (ow hw 4 rfl) (by decide) (argsL := [(.int (3 : Int32)), (.ref a67), (.ref a65)]) (S := []) (lenOf own_pd0 rfl) rfl rfl rfl (wt := 0) rfl (by decide) (by decide) (by decide) (by decide) (kk' := 2) rfl (nn' := 6) rfl at_245 (pc' := 248) rfl ?_
                              intro r85 T85 h85 W85 q85 z85
                              obtain ⟨q85, rfl⟩ := q85
                              have ha := own_rk3 v19 (v21 + 1) (0 : Int32) v20 v22 (by omega) (by omega) (by omega) (by omega) (by omega)
                              rw [← q85] at ha
                              refine o_lstore W85 (L' := #[.val (.int x0), .val (.int x1), .val (.int x2), .val (.int x3), .val (.int (3 : Int32)), .val (.int v18), .val (.int v19), .val (.int v20), .val (.int v21), .val (.int v22), .val (.int v23), .val (.ref a65), .val (.ref a67), .val (.long r75), .second, .val (.long r76), .second, .val (.int (1 : Int32)), .val (.long r85), .second]) at_248 rfl (pc' := 250) rfl ?_
                              rw [hp8] at ha
                              rw [c0] at ha
                              have hb1 : (r75 + 1).toInt = r75.toInt + 1 := by rw [Jvm.Kit.i64_add (by omega) (by omega), d1]
                              refine o_lload W85 at_250 (v := r75) rfl (pc' := 252) rfl ?_
                              refine o_lconst W85 (v := (1 : Int64)) at_252 rfl (pc' := 253) rfl ?_
                              refine o_ladd W85 at_253 (pc' := 254) rfl ?_
                              refine o_lload W85 at_254 (v := r76) rfl (pc' := 256) rfl ?_
                              refine o_lcmp_ge W85 at_256 (pc1 := 257) rfl at_257 (by decide) (pq := 281) (by decide) (pc' := 260) rfl (fun hc256 => ?_) (fun hc256 => ?_)
                              · exfalso; omega
                              · refine o_iload W85 at_260 (v := (1 : Int32)) rfl (pc' := 262) rfl ?_
                                refine o_if_eq W85 at_262 (by decide) (pq := 279) (by decide) (pc' := 265) rfl (fun hc262 => ?_) (fun hc262 => ?_)
                                · exact absurd hc262 (by decide)
                                · refine o_lload W85 at_265 (v := r85) rfl (pc' := 267) rfl ?_
                                  refine o_lload W85 at_267 (v := r75) rfl (pc' := 269) rfl ?_
                                  refine o_lconst W85 (v := (1 : Int64)) at_269 rfl (pc' := 270) rfl ?_
                                  refine o_ladd W85 at_270 (pc' := 271) rfl ?_
                                  refine o_lcmp_ne W85 at_271 (pc1 := 272) rfl at_272 (by decide) (pq := 279) (by decide) (pc' := 275) rfl (fun hc271 => ?_) (fun hc271 => ?_)
                                  · exfalso; omega
                                  · refine o_iconst W85 (v := (1 : Int32)) at_275 rfl (pc' := 276) rfl ?_
                                    refine o_goto W85 at_276 (by decide) (pq := 280) (by decide) ?_
                                    refine o_retN W85 (t := .boolean) rfl (by simp) at_280 (by decide) (by decide) ?_
                                    exact rfl
                            · exfalso
                              rcases q84 with ⟨rfl, u⟩ | ⟨rfl, u⟩ <;> omega
                      · exfalso
                        rcases q83 with ⟨rfl, u⟩ | ⟨rfl, u⟩ <;> omega
                · exfalso
                  rcases q82 with ⟨rfl, u⟩ | ⟨rfl, u⟩ <;> omega
          · have pq := pp2 (by omega) (by omega) (by omega)
            refine o_iload W77 at_153 (v := (3 : Int32)) rfl (pc' := 155) rfl ?_
            refine o_if_le W77 at_155 (by decide) (pq := 181) (by decide) (pc' := 158) rfl (fun hc155 => ?_) (fun hc155 => ?_)
            · exact absurd hc155 (by decide)
            · refine o_aload W77 at_158 (v := (.ref a65)) rfl rfl (pc' := 160) rfl ?_
              refine o_iconst W77 (v := (0 : Int32)) at_160 rfl (pc' := 161) rfl ?_
              refine o_iaload W77 AL_77 at_161 (pc' := 162) rfl (i := 0) (v := v18) rfl rfl ?_
              refine o_iload W77 at_162 (v := v18) rfl (pc' := 164) rfl ?_
              refine o_icmp_ne W77 at_164 (by decide) (pq := 179) (by decide) (pc' := 167) rfl (fun hc164 => ?_) (fun hc164 => ?_)
              · exact absurd rfl hc164
              · refine o_aload W77 at_167 (v := (.ref a67)) rfl rfl (pc' := 169) rfl ?_
                refine o_iconst W77 (v := (0 : Int32)) at_169 rfl (pc' := 170) rfl ?_
                refine o_iaload W77 AP at_170 (pc' := 171) rfl (i := 0) (v := (v19 + 1)) rfl rfl ?_
                refine o_iload W77 at_171 (v := v18) rfl (pc' := 173) rfl ?_
                refine o_callSI W77 (rm4 l Z a0 hw (v19 + 1) v18 h77 n0 W77.le) (ow hw 12 rfl) (ow hw 13 rfl) (ow hw 3 rfl) (ow hw 14 rfl) (by decide) (argsL := [(.int (v19 + 1)), (.int v18)]) (S := []) (lenOf own_pd3 rfl) rfl rfl rfl (wt := 0) rfl (by decide) (by decide) (by decide) (by decide) (kk' := 2) rfl (nn' := 6) rfl at_173 (pc' := 176) rfl ?_
                intro r86 T86 h86 W86 q86 z86
                obtain ⟨q86, rfl⟩ := q86
                refine o_if_ne W86 at_176 (by decide) (pq := 181) (by decide) (pc' := 179) rfl (fun hc176 => ?_) (fun hc176 => ?_)
                · refine o_iload W86 at_181 (v := (3 : Int32)) rfl (pc' := 183) rfl ?_
                  refine o_iconst W86 (v := (1 : Int32)) at_183 rfl (pc' := 184) rfl ?_
                  refine o_icmp_le W86 at_184 (by decide) (pq := 210) (by decide) (pc' := 187) rfl (fun hc184 => ?_) (fun hc184 => ?_)
                  · exact absurd hc184 (by decide)
                  · refine o_aload W86 at_187 (v := (.ref a65)) rfl rfl (pc' := 189) rfl ?_
                    refine o_iconst W86 (v := (1 : Int32)) at_189 rfl (pc' := 190) rfl ?_
                    refine o_iaload W86 AL_77 at_190 (pc' := 191) rfl (i := 1) (v := v20) rfl rfl ?_
                    refine o_iload W86 at_191 (v := v20) rfl (pc' := 193) rfl ?_
                    refine o_icmp_ne W86 at_193 (by decide) (pq := 208) (by decide) (pc' := 196) rfl (fun hc193 => ?_) (fun hc193 => ?_)
                    · exact absurd rfl hc193
                    · refine o_aload W86 at_196 (v := (.ref a67)) rfl rfl (pc' := 198) rfl ?_
                      refine o_iconst W86 (v := (1 : Int32)) at_198 rfl (pc' := 199) rfl ?_
                      refine o_iaload W86 AP at_199 (pc' := 200) rfl (i := 1) (v := (0 : Int32)) rfl rfl ?_
                      refine o_iload W86 at_200 (v := v20) rfl (pc' := 202) rfl ?_
                      refine o_callSI W86 (rm4 l Z a0 hw (0 : Int32) v20 h77 n0 W86.le) (ow hw 12 rfl) (ow hw 13 rfl) (ow hw 3 rfl) (ow hw 14 rfl) (by decide) (argsL := [(.int (0 : Int32)), (.int v20)]) (S := []) (lenOf own_pd3 rfl) rfl rfl rfl (wt := 0) rfl (by decide) (by decide) (by decide) (by decide) (kk' := 2) rfl (nn' := 6) rfl at_202 (pc' := 205) rfl ?_
                      intro r87 T87 h87 W87 q87 z87
                      obtain ⟨q87, rfl⟩ := q87
                      refine o_if_ne W87 at_205 (by decide) (pq := 210) (by decide) (pc' := 208) rfl (fun hc205 => ?_) (fun hc205 => ?_)
                      · refine o_iload W87 at_210 (v := (3 : Int32)) rfl (pc' := 212) rfl ?_
                        refine o_iconst W87 (v := (2 : Int32)) at_212 rfl (pc' := 213) rfl ?_
                        refine o_icmp_le W87 at_213 (by decide) (pq := 239) (by decide) (pc' := 216) rfl (fun hc213 => ?_) (fun hc213 => ?_)
                        · exact absurd hc213 (by decide)
                        · refine o_aload W87 at_216 (v := (.ref a65)) rfl rfl (pc' := 218) rfl ?_
                          refine o_iconst W87 (v := (2 : Int32)) at_218 rfl (pc' := 219) rfl ?_
                          refine o_iaload W87 AL_77 at_219 (pc' := 220) rfl (i := 2) (v := v22) rfl rfl ?_
                          refine o_iload W87 at_220 (v := v22) rfl (pc' := 222) rfl ?_
                          refine o_icmp_ne W87 at_222 (by decide) (pq := 237) (by decide) (pc' := 225) rfl (fun hc222 => ?_) (fun hc222 => ?_)
                          · exact absurd rfl hc222
                          · refine o_aload W87 at_225 (v := (.ref a67)) rfl rfl (pc' := 227) rfl ?_
                            refine o_iconst W87 (v := (2 : Int32)) at_227 rfl (pc' := 228) rfl ?_
                            refine o_iaload W87 AP at_228 (pc' := 229) rfl (i := 2) (v := (0 : Int32)) rfl rfl ?_
                            refine o_iload W87 at_229 (v := v22) rfl (pc' := 231) rfl ?_
                            refine o_callSI W87 (rm4 l Z a0 hw (0 : Int32) v22 h77 n0 W87.le) (ow hw 12 rfl) (ow hw 13 rfl) (ow hw 3 rfl) (ow hw 14 rfl) (by decide) (argsL := [(.int (0 : Int32)), (.int v22)]) (S := []) (lenOf own_pd3 rfl) rfl rfl rfl (wt := 0) rfl (by decide) (by decide) (by decide) (by decide) (kk' := 2) rfl (nn' := 6) rfl at_231 (pc' := 234) rfl ?_
                            intro r88 T88 h88 W88 q88 z88
                            obtain ⟨q88, rfl⟩ := q88
                            refine o_if_ne W88 at_234 (by decide) (pq := 239) (by decide) (pc' := 237) rfl (fun hc234 => ?_) (fun hc234 => ?_)
                            · refine o_iload W88 at_239 (v := (3 : Int32)) rfl (pc' := 241) rfl ?_
                              refine o_aload W88 at_241 (v := (.ref a67)) rfl rfl (pc' := 243) rfl ?_
                              refine o_aload W88 at_243 (v := (.ref a65)) rfl rfl (pc' := 245) rfl ?_
                              refine o_callSJ W88 (rm1_3 l Z a0 hw a67 a65 h77 n0 W88.le _ _ _ _ _ _  AP AL_77) (ow hw 1 rfl) (ow hw 2 rfl) (ow hw 3 rfl) (ow hw 4 rfl) (by decide) (argsL := [(.int (3 : Int32)), (.ref a67), (.ref a65)]) (S := []) (lenOf own_pd0 rfl) rfl rfl rfl (wt := 0) rfl (by decide) (by decide) (by decide) (by decide) (kk' := 2) rfl (nn' := 6) rfl at_245 (pc' := 248) rfl ?_
                              intro r89 T89 h89 W89 q89 z89
                              obtain ⟨q89, rfl⟩ := q89
                              have ha := own_rk3 (v19 + 1) (0 : Int32) (0 : Int32) v20 v22 (by omega) (by omega) (by omega) (by omega) (by omega)
                              rw [← q89] at ha
                              refine o_lstore W89 (L' := #[.val (.int x0), .val (.int x1), .val (.int x2), .val (.int x3), .val (.int (3 : Int32)), .val (.int v18), .val (.int v19), .val (.int v20), .val (.int v21), .val (.int v22), .val (.int v23), .val (.ref a65), .val (.ref a67), .val (.long r75), .second, .val (.long r76), .second, .val (.int (1 : Int32)), .val (.long r89), .second]) at_248 rfl (pc' := 250) rfl ?_
                              rw [hp6] at ha
                              rw [c0] at ha
                              have hb1 : (r75 + 1).toInt = r75.toInt + 1 := by rw [Jvm.Kit.i64_add (by omega) (by omega), d1]
                              refine o_lload W89 at_250 (v := r75) rfl (pc' := 252) rfl ?_
                              refine o_lconst W89 (v := (1 : Int64)) at_252 rfl (pc' := 253) rfl ?_
                              refine o_ladd W89 at_253 (pc' := 254) rfl ?_
                              refine o_lload W89 at_254 (v := r76) rfl (pc' := 256) rfl ?_
                              refine o_lcmp_ge W89 at_256 (pc1 := 257) rfl at_257 (by decide) (pq := 281) (by decide) (pc' := 260) rfl (fun hc256 => ?_) (fun hc256 => ?_)
                              · exfalso; omega
                              · refine o_iload W89 at_260 (v := (1 : Int32)) rfl (pc' := 262) rfl ?_
                                refine o_if_eq W89 at_262 (by decide) (pq := 279) (by decide) (pc' := 265) rfl (fun hc262 => ?_) (fun hc262 => ?_)
                                · exact absurd hc262 (by decide)
                                · refine o_lload W89 at_265 (v := r89) rfl (pc' := 267) rfl ?_
                                  refine o_lload W89 at_267 (v := r75) rfl (pc' := 269) rfl ?_
                                  refine o_lconst W89 (v := (1 : Int64)) at_269 rfl (pc' := 270) rfl ?_
                                  refine o_ladd W89 at_270 (pc' := 271) rfl ?_
                                  refine o_lcmp_ne W89 at_271 (pc1 := 272) rfl at_272 (by decide) (pq := 279) (by decide) (pc' := 275) rfl (fun hc271 => ?_) (fun hc271 => ?_)
                                  · exfalso; omega
                                  · refine o_iconst W89 (v := (1 : Int32)) at_275 rfl (pc' := 276) rfl ?_
                                    refine o_goto W89 at_276 (by decide) (pq := 280) (by decide) ?_
                                    refine o_retN W89 (t := .boolean) rfl (by simp) at_280 (by decide) (by decide) ?_
                                    exact rfl
                            · exfalso
                              rcases q88 with ⟨rfl, u⟩ | ⟨rfl, u⟩ <;> omega
                      · exfalso
                        rcases q87 with ⟨rfl, u⟩ | ⟨rfl, u⟩ <;> omega
                · exfalso
                  rcases q86 with ⟨rfl, u⟩ | ⟨rfl, u⟩ <;> omega
          · have pq := pp3 (by omega) (by omega) (by omega)
            refine o_iload W77 at_153 (v := (3 : Int32)) rfl (pc' := 155) rfl ?_
            refine o_if_le W77 at_155 (by decide) (pq := 181) (by decide) (pc' := 158) rfl (fun hc155 => ?_) (fun hc155 => ?_)
            · exact absurd hc155 (by decide)
            · refine o_aload W77 at_158 (v := (.ref a65)) rfl rfl (pc' := 160) rfl ?_
              refine o_iconst W77 (v := (0 : Int32)) at_160 rfl (pc' := 161) rfl ?_
              refine o_iaload W77 AL_77 at_161 (pc' := 162) rfl (i := 0) (v := v18) rfl rfl ?_
              refine o_iload W77 at_162 (v := v18) rfl (pc' := 164) rfl ?_
              refine o_icmp_ne W77 at_164 (by decide) (pq := 179) (by decide) (pc' := 167) rfl (fun hc164 => ?_) (fun hc164 => ?_)
              · exact absurd rfl hc164
              · refine o_aload W77 at_167 (v := (.ref a67)) rfl rfl (pc' := 169) rfl ?_
                refine o_iconst W77 (v := (0 : Int32)) at_169 rfl (pc' := 170) rfl ?_
                refine o_iaload W77 AP at_170 (pc' := 171) rfl (i := 0) (v := (0 : Int32)) rfl rfl ?_
                refine o_iload W77 at_171 (v := v18) rfl (pc' := 173) rfl ?_
                refine o_callSI W77 (rm4 l Z a0 hw (0 : Int32) v18 h77 n0 W77.le) (ow hw 12 rfl) (ow hw 13 rfl) (ow hw 3 rfl) (ow hw 14 rfl) (by decide) (argsL := [(.int (0 : Int32)), (.int v18)]) (S := []) (lenOf own_pd3 rfl) rfl rfl rfl (wt := 0) rfl (by decide) (by decide) (by decide) (by decide) (kk' := 2) rfl (nn' := 6) rfl at_173 (pc' := 176) rfl ?_
                intro r90 T90 h90 W90 q90 z90
                obtain ⟨q90, rfl⟩ := q90
                refine o_if_ne W90 at_176 (by decide) (pq := 181) (by decide) (pc' := 179) rfl (fun hc176 => ?_) (fun hc176 => ?_)
                · refine o_iload W90 at_181 (v := (3 : Int32)) rfl (pc' := 183) rfl ?_
                  refine o_iconst W90 (v := (1 : Int32)) at_183 rfl (pc' := 184) rfl ?_
                  refine o_icmp_le W90 at_184 (by decide) (pq := 210) (by decide) (pc' := 187) rfl (fun hc184 => ?_) (fun hc184 => ?_)
                  · exact absurd hc184 (by decide)
                  · refine o_aload W90 at_187 (v := (.ref a65)) rfl rfl (pc' := 189) rfl ?_
                    refine o_iconst W90 (v := (1 : Int32)) at_189 rfl (pc' := 190) rfl ?_
                    refine o_iaload W90 AL_77 at_190 (pc' := 191) rfl (i := 1) (v := v20) rfl rfl ?_
                    refine o_iload W90 at_191 (v := v20) rfl (pc' := 193) rfl ?_
                    refine o_icmp_ne W90 at_193 (by decide) (pq := 208) (by decide) (pc' := 196) rfl (fun hc193 => ?_) (fun hc193 => ?_)
                    · exact absurd rfl hc193
                    · refine o_aload W90 at_196 (v := (.ref a67)) rfl rfl (pc' := 198) rfl ?_
                      refine o_iconst W90 (v := (1 : Int32)) at_198 rfl (pc' := 199) rfl ?_
                      refine o_iaload W90 AP at_199 (pc' := 200) rfl (i := 1) (v := (0 : Int32)) rfl rfl ?_
                      refine o_iload W90 at_200 (v := v20) rfl (pc' := 202) rfl ?_
                      refine o_callSI W90 (rm4 l Z a0 hw (0 : Int32) v20 h77 n0 W90.le) (ow hw 12 rfl) (ow hw 13 rfl) (ow hw 3 rfl) (ow hw 14 rfl) (by decide) (argsL := [(.int (0 : Int32)), (.int v20)]) (S := []) (lenOf own_pd3 rfl) rfl rfl rfl (wt := 0) rfl (by decide) (by decide) (by decide) (by decide) (kk' := 2) rfl (nn' := 6) rfl at_202 (pc' := 205) rfl ?_
                      intro r91 T91 h91 W91 q91 z91
                      obtain ⟨q91, rfl⟩ := q91
                      refine o_if_ne W91 at_205 (by decide) (pq := 210) (by decide) (pc' := 208) rfl (fun hc205 => ?_) (fun hc205 => ?_)
                      · refine o_iload W91 at_210 (v := (3 : Int32)) rfl (pc' := 212) rfl ?_
                        refine o_iconst W91 (v := (2 : Int32)) at_212 rfl (pc' := 213) rfl ?_
                        refine o_icmp_le W91 at_213 (by decide) (pq := 239) (by decide) (pc' := 216) rfl (fun hc213 => ?_) (fun hc213 => ?_)
                        · exact absurd hc213 (by decide)
                        · refine o_aload W91 at_216 (v := (.ref a65)) rfl rfl (pc' := 218) rfl ?_
                          refine o_iconst W91 (v := (2 : Int32)) at_218 rfl (pc' := 219) rfl ?_
                          refine o_iaload W91 AL_77 at_219 (pc' := 220) rfl (i := 2) (v := v22) rfl rfl ?_
                          refine o_iload W91 at_220 (v := v22) rfl (pc' := 222) rfl ?_
                          refine o_icmp_ne W91 at_222 (by decide) (pq := 237) (by decide) (pc' := 225) rfl (fun hc222 => ?_) (fun hc222 => ?_)
                          · exact absurd rfl hc222
                          · refine o_aload W91 at_225 (v := (.ref a67)) rfl rfl (pc' := 227) rfl ?_
                            refine o_iconst W91 (v := (2 : Int32)) at_227 rfl (pc' := 228) rfl ?_
                            refine o_iaload W91 AP at_228 (pc' := 229) rfl (i := 2) (v := (0 : Int32)) rfl rfl ?_
                            refine o_iload W91 at_229 (v := v22) rfl (pc' := 231) rfl ?_
                            refine o_callSI W91 (rm4 l Z a0 hw (0 : Int32) v22 h77 n0 W91.le) (ow hw 12 rfl) (ow hw 13 rfl) (ow hw 3 rfl) (ow hw 14 rfl) (by decide) (argsL := [(.int (0 : Int32)), (.int v22)]) (S := []) (lenOf own_pd3 rfl) rfl rfl rfl (wt := 0) rfl (by decide) (by decide) (by decide) (by decide) (kk' := 2) rfl (nn' := 6) rfl at_231 (pc' := 234) rfl ?_
                            intro r92 T92 h92 W92 q92 z92
                            obtain ⟨q92, rfl⟩ := q92
                            refine o_if_ne W92 at_234 (by decide) (pq := 239) (by decide) (pc' := 237) rfl (fun hc234 => ?_) (fun hc234 => ?_)
                            · refine o_iload W92 at_239 (v := (3 : Int32)) rfl (pc' := 241) rfl ?_
                              refine o_aload W92 at_241 (v := (.ref a67)) rfl rfl (pc' := 243) rfl ?_
                              refine o_aload W92 at_243 (v := (.ref a65)) rfl rfl (pc' := 245) rfl ?_
                              refine o_callSJ W92 (rm1_3 l Z a0 hw a67 a65 h77 n0 W92.le _ _ _ _ _ _  AP AL_77) (ow hw 1 rfl) (ow hw 2 rfl) (ow hw 3 rfl) (ow hw 4 rfl) (by decide) (argsL := [(.int (3 : Int32)), (.ref a67), (.ref a65)]) (S := []) (lenOf own_pd0 rfl) rfl rfl rfl (wt := 0) rfl (by decide) (by decide) (by decide) (by decide) (kk' := 2) rfl (nn' := 6) rfl at_245 (pc' := 248) rfl ?_
                              intro r93 T93 h93 W93 q93 z93
                              obtain ⟨q93, rfl⟩ := q93
                              have ha := own_rk3 (0 : Int32) (0 : Int32) (0 : Int32) v20 v22 (by omega) (by omega) (by omega) (by omega) (by omega)
                              rw [← q93] at ha
                              refine o_lstore W93 (L' := #[.val (.int x0), .val (.int x1), .val (.int x2), .val (.int x3), .val (.int (3 : Int32)), .val (.int v18), .val (.int v19), .val (.int v20), .val (.int v21), .val (.int v22), .val (.int v23), .val (.ref a65), .val (.ref a67), .val (.long r75), .second, .val (.long r76), .second, .val (.int (0 : Int32)), .val (.long r93), .second]) at_248 rfl (pc' := 250) rfl ?_
                              rw [c0] at ha
                              have hb1 : (r75 + 1).toInt = r75.toInt + 1 := by rw [Jvm.Kit.i64_add (by omega) (by omega), d1]
                              refine o_lload W93 at_250 (v := r75) rfl (pc' := 252) rfl ?_
                              refine o_lconst W93 (v := (1 : Int64)) at_252 rfl (pc' := 253) rfl ?_
                              refine o_ladd W93 at_253 (pc' := 254) rfl ?_
                              refine o_lload W93 at_254 (v := r76) rfl (pc' := 256) rfl ?_
                              refine o_lcmp_ge W93 at_256 (pc1 := 257) rfl at_257 (by decide) (pq := 281) (by decide) (pc' := 260) rfl (fun hc256 => ?_) (fun hc256 => ?_)
                              · refine o_iload W93 at_281 (v := (0 : Int32)) rfl (pc' := 283) rfl ?_
                                refine o_if_ne W93 at_283 (by decide) (pq := 297) (by decide) (pc' := 286) rfl (fun hc283 => ?_) (fun hc283 => ?_)
                                · exact absurd hc283 (by decide)
                                · refine o_lload W93 at_286 (v := r93) rfl (pc' := 288) rfl ?_
                                  refine o_lconst W93 (v := (0 : Int64)) at_288 rfl (pc' := 289) rfl ?_
                                  refine o_lcmp_ne W93 at_289 (pc1 := 290) rfl at_290 (by decide) (pq := 297) (by decide) (pc' := 293) rfl (fun hc289 => ?_) (fun hc289 => ?_)
                                  · exfalso; omega
                                  · refine o_iconst W93 (v := (1 : Int32)) at_293 rfl (pc' := 294) rfl ?_
                                    refine o_goto W93 at_294 (by decide) (pq := 298) (by decide) ?_
                                    refine o_retN W93 (t := .boolean) rfl (by simp) at_298 (by decide) (by decide) ?_
                                    exact rfl
                              · exfalso; omega
                            · exfalso
                              rcases q92 with ⟨rfl, u⟩ | ⟨rfl, u⟩ <;> omega
                      · exfalso
                        rcases q91 with ⟨rfl, u⟩ | ⟨rfl, u⟩ <;> omega
                · exfalso
                  rcases q90 with ⟨rfl, u⟩ | ⟨rfl, u⟩ <;> omega
set_option maxRecDepth 65536 in
theorem comes_1 {Post : Tables → Env → Array Value → State → Outcome → State → Prop} (hpost : ∀ tb e args s v u, (limb_1_1.after args s (.returned v) u = true ∧ limb_1_2.after args s (.returned v) u = true ∧ True) → FrameEnd s (.returned v) u (Jvm.fieldLocs frame_1_writes args s ++ Jvm.arrayLocs frame_1_arrays args s ++ Jvm.staticLocs frame_1_statics s) 16 128 → Post tb e args s (.returned v) u) :
    ArmFor flags0 classFile x code maxLocals ret World_1 tables_1 room_1 Calls_1 rest_1 Pre_1 Post := by
  intro l hfl _ _ p e ha hc hk s m args below hf hA hF happ hP
  obtain ⟨hcalls, hrest, hpre⟩ := hP
  obtain ⟨-, -, -, hnamed, -, -, -, hat⟩ := (Spec.applies_iff hf).mp happ
  obtain ⟨hg, hn⟩ := and_e (Cond.before_iff.mp (show (Jvm.Cond.and given_1 narrow_1).before args s = true from hpre))
  obtain ⟨g0, hg1⟩ := and_e hg
  obtain ⟨q0, hg2⟩ := and_e hg1
  obtain ⟨q1, hg3⟩ := and_e hg2
  obtain ⟨q2, hg4⟩ := and_e hg3
  have q3 := hg4
  obtain ⟨w0, w1, w2, w3, rfl⟩ : ∃ w0 w1 w2 w3 : Value, args = #[w0, w1, w2, w3] := by
    have hs : args.size = 4 := by simpa [Cond.value, given_1] using g0
    obtain ⟨L⟩ := args
    match L, hs with
    | [w0, w1, w2, w3], _ => exact ⟨w0, w1, w2, w3, rfl⟩
  have hw := fun d (hd : d ∈ tables_1) => atoms_spec (ws := Jvm.Cond.code x code maxLocals ret :: tables_1) hat d (List.mem_cons_of_mem _ hd)
  obtain ⟨i0, ei0⟩ := is_v q0
  obtain rfl : w0 = (.int i0) := Option.some.inj ei0
  obtain ⟨i1, ei1⟩ := is_v q1
  obtain rfl : w1 = (.int i1) := Option.some.inj ei1
  obtain ⟨i2, ei2⟩ := is_v q2
  obtain rfl : w2 = (.int i2) := Option.some.inj ei2
  obtain ⟨i3, ei3⟩ := is_v q3
  obtain rfl : w3 = (.int i3) := Option.some.inj ei3
  obtain ⟨n, o, h1, h2, h3, _, L, rfl, ⟨rfl, -, N⟩, hq⟩ := own_law l s _ hw i0 i1 i2 i3 s.heap s.heap.size (Nat.le_refl _) p e ha hc hk s m _ below hf ((Spec.applies_iff_loose hf).mp happ).1 ⟨rfl, State.Warmed39.refl s, rfl⟩ trivial
  refine ⟨n, _, h1, h2, h3, hpost _ _ _ _ _ _ ⟨Cond.after_iff.mpr rfl, Cond.after_iff.mpr (eq_i res_at (Term.int_eval (1)) rfl), trivial⟩ ⟨hq.1, hq.2.1, (hq.2.2.sift fun y hy => Or.inr (N y hy)).mono (by decide) (by decide)⟩⟩
theorem main_1_1 : Claimed_1_1 := comes_1 fun _ _ _ _ _ _ h hF => ⟨h.1, hF⟩
theorem main_1_2 : Claimed_1_2 := comes_1 fun _ _ _ _ _ _ h hF => ⟨h.2.1, hF⟩
end Jvm.Pilot.@@N@@
namespace Jvm.Pilot.@@N@@
open Jvm Jvm.ClassFile Sem Op Lib Jvm.Free Jvm.Stand Jvm.Pilot.@@N@@.Jvm.D
/-! MADE BY PROGRAM (witnessworld.py) out of the Statement's table words and the real class files: 9 classes; the members and pool entries that the words name. The judged class is class 1, her method 4. -/
namespace start1
open Jvm.ClassFile
def u (s : String) : CpInfo := .utf8 (stringToUtf16 s)
/-- a pool by its gaps: so many unusable entries, then the entry; so many at the end -/
def gap : Nat → List CpInfo → List CpInfo
  | 0, r => r
  | n + 1, r => .unusable :: gap n r
def poolList (es : List (Nat × CpInfo)) (last : Nat) : List CpInfo := es.foldr (fun e r => gap e.1 (e.2 :: r)) (gap last [])
def pool (es : List (Nat × CpInfo)) (last : Nat) : Array CpInfo := ⟨poolList es last⟩
def fileOf (pool : Array CpInfo) (this : Nat) (attrs : Array Attribute := #[]) (ms : Array MethodInfo := #[]) (fl : Nat := 33) (sup : Nat := 0) (ifs : Array Nat := #[]) (fds : Array FieldInfo := #[]) : ClassFile where
  minorVersion := 0
  majorVersion := 65
  constantPool := pool
  accessFlags := fl
  thisClass := this
  superClass := sup
  interfaces := ifs
  fields := fds
  methods := ms
  attributes := attrs
def plain (name : String) (sup : Option ClassId) : Class where
  name := name
  kind := .ordinary
  loader := none
  accessFlags := 33
  super := sup
  interfaces := #[]
  cf := none
  fields := #[]
  methods := #[]
  instanceTypes := #[]
  staticTypes := #[]
  resolved := #[]
  callSites := []
  init := .initialized
  statics := none
  mirror := none

def pool0 : Array CpInfo := pool [(5, u "<init>"), (0, u "()V"), (1, .class_ 10), (1, u "java/lang/Object")] 113

def k0m0 : Method := { name := "<init>", desc := "()V", sig := { parameters := [], returnType := none }, accessFlags := 1, code := none }
/-- java/lang/Object -/
def k0 : Class := { plain "java/lang/Object" none with
  accessFlags := 33
  interfaces := #[]
  cf := some (fileOf pool0 8 #[] #[{ accessFlags := 1, nameIndex := 5, descriptorIndex := 6, attributes := #[] }] 33 0 #[] #[])
  fields := #[]
  methods := #[k0m0]
  instanceTypes := #[]
  staticTypes := #[]
  resolved := Array.replicate 124 none
  statics := none }

def pool1 : Array CpInfo := pool [(2, .class_ 4), (1, u "java/lang/Object"), (0, u "<init>"), (0, u "()V"), (0, .methodref 8 9), (0, .class_ 10), (0, .nameAndType 11 12), (0, u "com/example/private_knowledge_graphs/privateknowledgegraphs/release/CombinationsNextPinLaw"), (0, u "rank"), (0, u "(I[I[I)J"), (0, .methodref 8 14), (0, .nameAndType 15 16), (0, u "total"), (0, u "(I[I)J"), (0, .methodref 18 19), (0, .class_ 20), (0, .nameAndType 21 22), (0, u "com/example/private_knowledge_graphs/privateknowledgegraphs/release/Combinations"), (0, u "next"), (0, u "([I[I)Z"), (0, .methodref 8 24), (0, .nameAndType 25 26), (0, u "ok"), (0, u "(II)Z"), (3, u "law"), (0, u "(IIII)Z")] 4

def k1m0 : Method := { name := "<init>", desc := "()V", sig := { parameters := [], returnType := none }, accessFlags := 2, code := none }
def k1c1 : Code := { maxStack := 4, maxLocals := 3, code := method_2_code, exceptionTable := #[], attributes := #[] }
def k1m1 : Method := { name := "rank", desc := "(I[I[I)J", sig := { parameters := [.int, (.array .int), (.array .int)], returnType := some .long }, accessFlags := 10, code := some k1c1 }
def k1c2 : Code := { maxStack := 4, maxLocals := 4, code := method_3_code, exceptionTable := #[], attributes := #[] }
def k1m2 : Method := { name := "total", desc := "(I[I)J", sig := { parameters := [.int, (.array .int)], returnType := some .long }, accessFlags := 10, code := some k1c2 }
def k1c3 : Code := { maxStack := 2, maxLocals := 2, code := method_4_code, exceptionTable := #[], attributes := #[] }
def k1m3 : Method := { name := "ok", desc := "(II)Z", sig := { parameters := [.int, .int], returnType := some .boolean }, accessFlags := 10, code := some k1c3 }
def k1c4 : Code := { maxStack := 6, maxLocals := 20, code := code, exceptionTable := #[], attributes := #[] }
def k1m4 : Method := { name := "law", desc := "(IIII)Z", sig := { parameters := [.int, .int, .int, .int], returnType := some .boolean }, accessFlags := 9, code := some k1c4 }
/-- com/example/private_knowledge_graphs/privateknowledgegraphs/release/CombinationsNextPinLaw -/
def k1 : Class := { plain "com/example/private_knowledge_graphs/privateknowledgegraphs/release/CombinationsNextPinLaw" (some 0) with
  accessFlags := 49
  interfaces := #[]
  cf := some (fileOf pool1 8 #[] #[{ accessFlags := 2, nameIndex := 5, descriptorIndex := 6, attributes := #[] }, { accessFlags := 10, nameIndex := 11, descriptorIndex := 12, attributes := #[] }, { accessFlags := 10, nameIndex := 15, descriptorIndex := 16, attributes := #[] }, { accessFlags := 10, nameIndex := 25, descriptorIndex := 26, attributes := #[] }, { accessFlags := 9, nameIndex := 30, descriptorIndex := 31, attributes := #[] }] 49 2 #[] #[])
  fields := #[]
  methods := #[k1m0, k1m1, k1m2, k1m3, k1m4]
  instanceTypes := #[]
  staticTypes := #[]
  resolved := Array.replicate 36 none
  statics := none }

def pool2 : Array CpInfo := pool [(2, .class_ 4), (1, u "java/lang/Object"), (0, u "<init>"), (0, u "()V"), (0, .class_ 8), (0, u "com/example/private_knowledge_graphs/privateknowledgegraphs/release/Combinations"), (2, u "next"), (0, u "([I[I)Z")] 3

def k2m0 : Method := { name := "<init>", desc := "()V", sig := { parameters := [], returnType := none }, accessFlags := 2, code := none }
def k2c1 : Code := { maxStack := 4, maxLocals := 3, code := prog_21_method_2_code, exceptionTable := #[], attributes := #[] }
def k2m1 : Method := { name := "next", desc := "([I[I)Z", sig := { parameters := [(.array .int), (.array .int)], returnType := some .boolean }, accessFlags := 8, code := some k2c1 }
/-- com/example/private_knowledge_graphs/privateknowledgegraphs/release/Combinations -/
def k2 : Class := { plain "com/example/private_knowledge_graphs/privateknowledgegraphs/release/Combinations" (some 0) with
  accessFlags := 48
  interfaces := #[]
  cf := some (fileOf pool2 7 #[] #[{ accessFlags := 2, nameIndex := 5, descriptorIndex := 6, attributes := #[] }, { accessFlags := 8, nameIndex := 11, descriptorIndex := 12, attributes := #[] }] 48 2 #[] #[])
  fields := #[]
  methods := #[k2m0, k2m1]
  instanceTypes := #[]
  staticTypes := #[]
  resolved := Array.replicate 16 none
  statics := none }

def pool3 : Array CpInfo := pool [(1, u "java/lang/Cloneable"), (0, .class_ 1), (0, u "java/lang/Object"), (0, .class_ 3)] 3

/-- java/lang/Cloneable -/
def k3 : Class := { plain "java/lang/Cloneable" (some 0) with
  accessFlags := 1537
  interfaces := #[]
  cf := some (fileOf pool3 2 #[] #[] 1537 4 #[] #[])
  fields := #[]
  methods := #[]
  instanceTypes := #[]
  staticTypes := #[]
  resolved := Array.replicate 8 none
  statics := none }

def pool4 : Array CpInfo := pool [(1, u "java/io/Serializable"), (0, .class_ 1), (0, u "java/lang/Object"), (0, .class_ 3)] 3

/-- java/io/Serializable -/
def k4 : Class := { plain "java/io/Serializable" (some 0) with
  accessFlags := 1537
  interfaces := #[]
  cf := some (fileOf pool4 2 #[] #[] 1537 4 #[] #[])
  fields := #[]
  methods := #[]
  instanceTypes := #[]
  staticTypes := #[]
  resolved := Array.replicate 8 none
  statics := none }

/-- the primitive byte -/
def k5 : Class := { plain "byte" none with kind := .primitive 'B', accessFlags := 0x411 }
/-- [B -/
def k6 : Class := { plain "[B" (some 0) with kind := .array 5 .byte, interfaces := #[3, 4], accessFlags := 1041 }

/-- the primitive int -/
def k7 : Class := { plain "int" none with kind := .primitive 'I', accessFlags := 0x411 }
/-- [I -/
def k8 : Class := { plain "[I" (some 0) with kind := .array 7 .int, interfaces := #[3, 4], accessFlags := 1041 }

def heap : Heap := #[]
def classes : Array Class := #[k0, k1, k2, k3, k4, k5, k6, k7, k8]
def interned : List (Array UInt16 × Addr) := []
def slotsUsed : Nat := 0
def theMethod : MethodId := ⟨1, 4⟩
def args0 : Array Value := #[.int 2, .int 777, .int 2000, .int 3]
def aboutOver (below : List Frame) : State where
  vm := { classes := classes, interned := interned.toArray }
  heap := heap
  slotsUsed := slotsUsed
  threads := #[{ frames := .invoking theMethod args0 :: below }]
def below0 : List Frame := [.native { method := ⟨0, 0⟩, args := #[] }]
def about1 : State := aboutOver below0
def p0 : Program := .bare "" "" ""
def e0 : Env := launch0.env 0 0 0
theorem w_frames : about1.frames = Frame.invoking theMethod args0 :: below0 := rfl
set_option maxRecDepth 65536 in
theorem w_args : argsFit about1.vm theMethod args0 = true := by decide +kernel
set_option maxRecDepth 65536 in
theorem w_heap : heapFits about1 = true := by decide +kernel
set_option maxRecDepth 65536 in
theorem w_runnable : about1.curStatus? = some .runnable := by decide +kernel
set_option maxRecDepth 65536 in
theorem w_alone : about1.alone = true := by decide +kernel
set_option maxRecDepth 65536 in
theorem w_named : about1.methodNamed? x = some theMethod := by decide +kernel
set_option maxRecDepth 65536 in
theorem w_hears : about1.hears theMethod below0 = true := by decide +kernel
set_option maxRecDepth 65536 in
theorem w_ripe : about1.ripe theMethod args0 below0 = true := by decide +kernel
theorem w_running : about1.status = .running := rfl
set_option maxRecDepth 65536 in
theorem w_room : about1.hasRoom e0.platform room_1 = true :=
  launch0.hasRoom_least _ room_1 (by decide +kernel) (by decide +kernel) (by decide +kernel) (by decide +kernel) (by decide +kernel) (by decide +kernel)
theorem allAtoms_all (ts : List Jvm.Cond) (a : Array Jvm.Value) (st : Jvm.State) : (allAtoms ts).before a st = ts.all (fun c => c.before a st) := by
  induction ts with
  | nil => rfl
  | cons c t ih =>
    show (Jvm.Cond.and c (allAtoms t)).before a st = _
    rw [Jvm.Cond.before_and, ih, List.all_cons]
def words1 : List Jvm.Cond := Jvm.Cond.code x code maxLocals ret :: tables_1
/-- a 'code' word, met by the world's own term for the bytes: nothing is compared byte by byte -/
theorem code_word {y : MethodName} {bytes : ByteArray} {mx : Nat} {rt : Option FieldType} {a : Array Value} {s : State} {m : MethodId} {meth : Method} {c : Code} (h1 : s.methodNamed? y = some m) (h2 : s.vm.method? m = some meth) (h3 : meth.code = some c) (h4 : c.code = bytes)
    (h5 : (c.maxLocals == mx && c.exceptionTable.isEmpty && decide (c.maxStack ≤ mostOperands) && decide (meth.sig.returnType = rt) && !meth.locks && decide (parseMethodDescriptor y.desc = some meth.sig)) = true) : (Jvm.Cond.code y bytes mx rt).before a s = true := by
  simp only [Bool.and_eq_true, beq_iff_eq, Bool.not_eq_true', decide_eq_true_eq] at h5
  obtain ⟨⟨⟨⟨⟨g1, g2⟩, g3⟩, g4⟩, g5⟩, g6⟩ := h5
  simp [Cond.before, Cond.holds, Cond.value, h1, h2, h3, h4, g1, g2, g3, g4, g5, g6]
def isCode : Jvm.Cond → Bool
  | .code _ _ _ _ => true
  | _ => false
theorem all_split {L : List Jvm.Cond} {P : Jvm.Cond → Bool} (h1 : L.all (fun c => isCode c || P c) = true) (h2 : ∀ c ∈ L.filter isCode, P c = true) : L.all P = true := by
  refine List.all_eq_true.mpr fun c hc => ?_
  have h := List.all_eq_true.mp h1 c hc
  rcases Bool.eq_false_or_eq_true (isCode c) with hi | hi
  · exact h2 c (List.mem_filter.mpr ⟨hc, hi⟩)
  · simpa [hi] using h
set_option maxRecDepth 65536 in
theorem w_c0 : (Jvm.Cond.code x code maxLocals ret).before args0 about1 = true := code_word (m := ⟨1, 4⟩) (meth := k1m4) (c := k1c4) (by decide +kernel) rfl rfl rfl (by decide +kernel)
set_option maxRecDepth 65536 in
theorem w_c1 : (Jvm.Cond.code ({ cls := "com/example/private_knowledge_graphs/privateknowledgegraphs/release/CombinationsNextPinLaw", name := "rank", desc := "(I[I[I)J" } : Jvm.MethodName) method_2_code (3 : Nat) (Option.some Jvm.ClassFile.FieldType.long)).before args0 about1 = true := code_word (m := ⟨1, 1⟩) (meth := k1m1) (c := k1c1) (by decide +kernel) rfl rfl rfl (by decide +kernel)
set_option maxRecDepth 65536 in
theorem w_c2 : (Jvm.Cond.code ({ cls := "com/example/private_knowledge_graphs/privateknowledgegraphs/release/CombinationsNextPinLaw", name := "total", desc := "(I[I)J" } : Jvm.MethodName) method_3_code (4 : Nat) (Option.some Jvm.ClassFile.FieldType.long)).before args0 about1 = true := code_word (m := ⟨1, 2⟩) (meth := k1m2) (c := k1c2) (by decide +kernel) rfl rfl rfl (by decide +kernel)
set_option maxRecDepth 65536 in
theorem w_c3 : (Jvm.Cond.code ({ cls := "com/example/private_knowledge_graphs/privateknowledgegraphs/release/Combinations", name := "next", desc := "([I[I)Z" } : Jvm.MethodName) prog_21_method_2_code (3 : Nat) (Option.some Jvm.ClassFile.FieldType.boolean)).before args0 about1 = true := code_word (m := ⟨2, 1⟩) (meth := k2m1) (c := k2c1) (by decide +kernel) rfl rfl rfl (by decide +kernel)
set_option maxRecDepth 65536 in
theorem w_c4 : (Jvm.Cond.code ({ cls := "com/example/private_knowledge_graphs/privateknowledgegraphs/release/CombinationsNextPinLaw", name := "ok", desc := "(II)Z" } : Jvm.MethodName) method_4_code (2 : Nat) (Option.some Jvm.ClassFile.FieldType.boolean)).before args0 about1 = true := code_word (m := ⟨1, 3⟩) (meth := k1m3) (c := k1c3) (by decide +kernel) rfl rfl rfl (by decide +kernel)
def codes1 : List Jvm.Cond := [Jvm.Cond.code x code maxLocals ret, Jvm.Cond.code ({ cls := "com/example/private_knowledge_graphs/privateknowledgegraphs/release/CombinationsNextPinLaw", name := "rank", desc := "(I[I[I)J" } : Jvm.MethodName) method_2_code (3 : Nat) (Option.some Jvm.ClassFile.FieldType.long), Jvm.Cond.code ({ cls := "com/example/private_knowledge_graphs/privateknowledgegraphs/release/CombinationsNextPinLaw", name := "total", desc := "(I[I)J" } : Jvm.MethodName) method_3_code (4 : Nat) (Option.some Jvm.ClassFile.FieldType.long), Jvm.Cond.code ({ cls := "com/example/private_knowledge_graphs/privateknowledgegraphs/release/Combinations", name := "next", desc := "([I[I)Z" } : Jvm.MethodName) prog_21_method_2_code (3 : Nat) (Option.some Jvm.ClassFile.FieldType.boolean), Jvm.Cond.code ({ cls := "com/example/private_knowledge_graphs/privateknowledgegraphs/release/CombinationsNextPinLaw", name := "ok", desc := "(II)Z" } : Jvm.MethodName) method_4_code (2 : Nat) (Option.some Jvm.ClassFile.FieldType.boolean)]
set_option maxRecDepth 65536 in
theorem codes_eq : words1.filter isCode = codes1 := rfl
theorem w_codes : ∀ c ∈ words1.filter isCode, c.before args0 about1 = true := by
  rw [codes_eq]
  intro c hc
  simp only [codes1, List.mem_cons, List.not_mem_nil, or_false] at hc
  rcases hc with rfl | rfl | rfl | rfl | rfl
  · exact w_c0
  · exact w_c1
  · exact w_c2
  · exact w_c3
  · exact w_c4
set_option maxRecDepth 65536 in
theorem w_t1 : words1.all (fun c => isCode c || c.before args0 about1) = true := by decide +kernel
theorem w_tables : (allAtoms (Jvm.Cond.code x code maxLocals ret :: tables_1)).before args0 about1 = true := by
  rw [allAtoms_all]
  show words1.all (fun c => c.before args0 about1) = true
  refine all_split ?_ w_codes
  rw [w_t1]
set_option maxRecDepth 65536 in
theorem w_case : (Jvm.Cond.and given_1 narrow_1).before args0 about1 = true := by decide +kernel
theorem w_applies : (headSpec (Jvm.Cond.code x code maxLocals ret :: tables_1) room_1).applies x e0.platform about1 = true :=
  (Spec.applies_iff w_frames).mpr ⟨w_running, w_runnable, w_alone, w_named, w_hears, w_ripe, w_room, w_tables⟩
theorem atStart : AtStart classFile x code maxLocals ret World_1 tables_1 room_1 Calls_1 rest_1 Pre_1 launch0 p0 e0 about1 theMethod args0 below0 :=
  ⟨lists_1, trivial, launch0.admits_env _ _ _, launch0.least_env, fairChoices_fair.cas, fairChoices_fair.clock, w_frames, w_args, w_heap, w_applies, trivial, trivial, w_case⟩
end start1
theorem witness_1 : WitnessClaimed_1 := ⟨start1.p0, start1.e0, start1.about1, start1.theMethod, start1.args0, start1.below0, start1.atStart⟩
end Jvm.Pilot.@@N@@
