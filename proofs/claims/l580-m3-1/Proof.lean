import JvmDerived
import JvmDerived.Pilot.@@N@@Statement
import JvmDerived.Pilot.@@N@@Code
set_option linter.unusedVariables false
set_option linter.unusedSimpArgs false
@@BLOCK:NumsL.lean.txt@@
namespace Jvm.Pilot.@@N@@
open Jvm Jvm.ClassFile Sem Op Lib Jvm.Free Jvm.Stand Jvm.LawKit Jvm.RoadKit Bundle Jvm.Pilot.@@N@@.Jvm.D
section OwnKit
variable {p : Program} {l : Launch} {e : Env} {R : Room} {s : State} {m : MethodId} {args : Array Value} {below : List Frame} {meth : Method} {c : Code} {Z : State} {B : ByteArray} {ml : Nat} {own nm : String} {rt : Option FieldType} {n0 z0 n1 z1 kc ns : Nat} {EN : Outcome → State → List Loc → Prop} {T : State} {h h' : Heap} {kk nn kk' nn' : Nat} {Q : Option Value → Heap → Prop} {pc pc' pq : Nat} {L L' : Array Slot} {S : List Value} {a0 : Array Value}
/-- what one body's walk keeps throughout -/
def OCx (p : Program) (s : State) (m : MethodId) (meth : Method) (c : Code) (Z : State) (B : ByteArray) (ml : Nat) (own nm : String) (rt : Option FieldType) : Prop :=
  p.tables.exec = Jvm.exec ∧ Z.Warmed39 s.vm ∧ c.code = B ∧ c.maxLocals = ml ∧ s.vm.findClass own = some m.cls ∧ meth.name = nm ∧ meth.sig.returnType = rt ∧ meth.locks = false
/-- where the walk stands: the state T, its heap h, what was made so far -/
def OW (p : Program) (l : Launch) (e : Env) (R : Room) (s : State) (m : MethodId) (args : Array Value) (below : List Frame) (meth : Method) (c : Code) (Z : State) (B : ByteArray) (ml : Nat) (own nm : String) (rt : Option FieldType) (n0 z0 : Nat) (T : State) (h : Heap) (kk nn : Nat) : Prop :=
  OCx p s m meth c Z B ml own nm rt ∧ n0 ≤ z0 ∧ z0 ≤ h.size ∧ T.heap = h ∧ ∃ locs, Stand p l e R s m args below meth c T locs kk nn ∧ Fr n0 locs
/-- what a body leaves: its own word, and that nothing old was written or lost -/
def OQ (Q : Option Value → Heap → Prop) (z0 n0 : Nat) (v : Option Value) (h : Heap) (L : List Loc) : Prop := Q v h ∧ z0 ≤ h.size ∧ Fr n0 L
/-- the run from here ends well -/
def OF (p : Program) (e : Env) (below : List Frame) (n0 z0 : Nat) (EN : Outcome → State → List Loc → Prop) (Q : Option Value → Heap → Prop) (T : State) (f : JFrame) : Prop :=
  ∃ s₂ o, Steps p.tables e below (T.setTop f) s₂ ∧ s₂.status = .running ∧ Ended s₂ below o ∧ ∃ v L, o = .returned v ∧ OQ Q z0 n0 v s₂.heap L ∧ EN o s₂ L
/-- the end as the narrow frame has it -/
def ENn (s : State) (kc ns : Nat) : Outcome → State → List Loc → Prop := fun o t L => FrameEnd s o t L kc ns
theorem OW.here (W : OW p l e R s m args below meth c Z B ml own nm rt n0 z0 T h kk nn) : At T m c below := by obtain ⟨-, -, -, -, _, X, -⟩ := W; exact X.here
theorem OW.hx (W : OW p l e R s m args below meth c Z B ml own nm rt n0 z0 T h kk nn) : p.tables.exec = Jvm.exec := W.1.1
theorem OW.hZ (W : OW p l e R s m args below meth c Z B ml own nm rt n0 z0 T h kk nn) : Z.Warmed39 s.vm := W.1.2.1
theorem OW.by (W : OW p l e R s m args below meth c Z B ml own nm rt n0 z0 T h kk nn) : c.code = B := W.1.2.2.1
theorem OW.hml (W : OW p l e R s m args below meth c Z B ml own nm rt n0 z0 T h kk nn) : c.maxLocals = ml := W.1.2.2.2.1
theorem OW.hown (W : OW p l e R s m args below meth c Z B ml own nm rt n0 z0 T h kk nn) : s.vm.findClass own = some m.cls := W.1.2.2.2.2.1
theorem OW.le (W : OW p l e R s m args below meth c Z B ml own nm rt n0 z0 T h kk nn) : n0 ≤ h.size := Nat.le_trans W.2.1 W.2.2.1
theorem OF.step {T' : State} {f f' : JFrame} (hs : ∀ t, Steps p.tables e below (T'.setTop f') t → Steps p.tables e below (T.setTop f) t) (q : OF p e below n1 z1 EN Q T' f') : OF p e below n1 z1 EN Q T f := by
  obtain ⟨s₂, o, h1, h2⟩ := q
  exact ⟨s₂, o, hs _ h1, h2⟩
theorem OF.cast {f f' : JFrame} (q : f = f') (h : OF p e below n1 z1 EN Q T f') : OF p e below n1 z1 EN Q T f := q ▸ h
theorem o_iloadN {i : Fin 4} {v : Int32} (W : OW p l e R s m args below meth c Z B ml own nm rt n0 z0 T h kk nn) (hd : decode B pc = .ok (.iload_n i, 1)) (hl : L[i.val]? = some (.val (.int v))) (hp : pc + 1 = pc')
    (k1 : OF p e below n1 z1 EN Q T (mkF m pc' L (.int v :: S))) : OF p e below n1 z1 EN Q T (mkF m pc L S) := by
  subst hp; exact OF.step (fun t q => XS.iloadN W.here W.hx rfl (hb W.by hd) hl q) k1
theorem o_iload {i : Nat} {v : Int32} (W : OW p l e R s m args below meth c Z B ml own nm rt n0 z0 T h kk nn) (hd : decode B pc = .ok (.iload i, 2)) (hl : L[i]? = some (.val (.int v))) (hp : pc + 2 = pc')
    (k1 : OF p e below n1 z1 EN Q T (mkF m pc' L (.int v :: S))) : OF p e below n1 z1 EN Q T (mkF m pc L S) := by
  subst hp; exact OF.step (fun t q => XS.iload W.here W.hx rfl (hb W.by hd) hl q) k1
theorem o_lloadN {i : Fin 4} {v : Int64} (W : OW p l e R s m args below meth c Z B ml own nm rt n0 z0 T h kk nn) (hd : decode B pc = .ok (.lload_n i, 1)) (hl : L[i.val]? = some (.val (.long v))) (hp : pc + 1 = pc')
    (k1 : OF p e below n1 z1 EN Q T (mkF m pc' L (.long v :: S))) : OF p e below n1 z1 EN Q T (mkF m pc L S) := by
  subst hp; exact OF.step (fun t q => XS.lloadN W.here W.hx rfl (hb W.by hd) hl q) k1
theorem o_lload {i : Nat} {v : Int64} (W : OW p l e R s m args below meth c Z B ml own nm rt n0 z0 T h kk nn) (hd : decode B pc = .ok (.lload i, 2)) (hl : L[i]? = some (.val (.long v))) (hp : pc + 2 = pc')
    (k1 : OF p e below n1 z1 EN Q T (mkF m pc' L (.long v :: S))) : OF p e below n1 z1 EN Q T (mkF m pc L S) := by
  subst hp; exact OF.step (fun t q => XS.lload W.here W.hx rfl (hb W.by hd) hl q) k1
theorem o_aloadN {i : Fin 4} {v : Value} (W : OW p l e R s m args below meth c Z B ml own nm rt n0 z0 T h kk nn) (hd : decode B pc = .ok (.aload_n i, 1)) (hl : L[i.val]? = some (.val v)) (hv : v.isRef = true) (hp : pc + 1 = pc')
    (k1 : OF p e below n1 z1 EN Q T (mkF m pc' L (v :: S))) : OF p e below n1 z1 EN Q T (mkF m pc L S) := by
  subst hp; exact OF.step (fun t q => XS.aloadN W.here W.hx rfl (hb W.by hd) hl hv q) k1
theorem o_aload {i : Nat} {v : Value} (W : OW p l e R s m args below meth c Z B ml own nm rt n0 z0 T h kk nn) (hd : decode B pc = .ok (.aload i, 2)) (hl : L[i]? = some (.val v)) (hv : v.isRef = true) (hp : pc + 2 = pc')
    (k1 : OF p e below n1 z1 EN Q T (mkF m pc' L (v :: S))) : OF p e below n1 z1 EN Q T (mkF m pc L S) := by
  subst hp; exact OF.step (fun t q => XS.aload W.here W.hx rfl (hb W.by hd) hl hv q) k1
theorem o_istoreN {i : Fin 4} {x : Int32} (W : OW p l e R s m args below meth c Z B ml own nm rt n0 z0 T h kk nn) (hd : decode B pc = .ok (.istore_n i, 1)) (hl : storeLocals L i.val (.int x) = some L') (hp : pc + 1 = pc')
    (k1 : OF p e below n1 z1 EN Q T (mkF m pc' L' S)) : OF p e below n1 z1 EN Q T (mkF m pc L (.int x :: S)) := by
  subst hp; exact OF.step (fun t q => XS.istoreN W.here W.hx rfl (hb W.by hd) rfl hl q) k1
theorem o_istoreNG {i : Fin 4} {x : Int32} {Lf : Int32 → Array Slot} (W : OW p l e R s m args below meth c Z B ml own nm rt n0 z0 T h kk nn) (hd : decode B pc = .ok (.istore_n i, 1)) (hl : storeLocals L i.val (.int x) = some (Lf x)) (hp : pc + 1 = pc')
    (k1 : ∀ v, v = x → OF p e below n1 z1 EN Q T (mkF m pc' (Lf v) S)) : OF p e below n1 z1 EN Q T (mkF m pc L (.int x :: S)) := o_istoreN W hd hl hp (k1 x rfl)
theorem o_istore {i : Nat} {x : Int32} (W : OW p l e R s m args below meth c Z B ml own nm rt n0 z0 T h kk nn) (hd : decode B pc = .ok (.istore i, 2)) (hl : storeLocals L i (.int x) = some L') (hp : pc + 2 = pc')
    (k1 : OF p e below n1 z1 EN Q T (mkF m pc' L' S)) : OF p e below n1 z1 EN Q T (mkF m pc L (.int x :: S)) := by
  subst hp; exact OF.step (fun t q => XS.istore W.here W.hx rfl (hb W.by hd) rfl hl q) k1
theorem o_istoreG {i : Nat} {x : Int32} {Lf : Int32 → Array Slot} (W : OW p l e R s m args below meth c Z B ml own nm rt n0 z0 T h kk nn) (hd : decode B pc = .ok (.istore i, 2)) (hl : storeLocals L i (.int x) = some (Lf x)) (hp : pc + 2 = pc')
    (k1 : ∀ v, v = x → OF p e below n1 z1 EN Q T (mkF m pc' (Lf v) S)) : OF p e below n1 z1 EN Q T (mkF m pc L (.int x :: S)) := o_istore W hd hl hp (k1 x rfl)
theorem o_lstoreN {i : Fin 4} {x : Int64} (W : OW p l e R s m args below meth c Z B ml own nm rt n0 z0 T h kk nn) (hd : decode B pc = .ok (.lstore_n i, 1)) (hl : storeLocals L i.val (.long x) = some L') (hp : pc + 1 = pc')
    (k1 : OF p e below n1 z1 EN Q T (mkF m pc' L' S)) : OF p e below n1 z1 EN Q T (mkF m pc L (.long x :: S)) := by
  subst hp; exact OF.step (fun t q => XS.lstoreN W.here W.hx rfl (hb W.by hd) rfl hl q) k1
theorem o_lstoreNG {i : Fin 4} {x : Int64} {Lf : Int64 → Array Slot} (W : OW p l e R s m args below meth c Z B ml own nm rt n0 z0 T h kk nn) (hd : decode B pc = .ok (.lstore_n i, 1)) (hl : storeLocals L i.val (.long x) = some (Lf x)) (hp : pc + 1 = pc')
    (k1 : ∀ v, v = x → OF p e below n1 z1 EN Q T (mkF m pc' (Lf v) S)) : OF p e below n1 z1 EN Q T (mkF m pc L (.long x :: S)) := o_lstoreN W hd hl hp (k1 x rfl)
theorem o_lstore {i : Nat} {x : Int64} (W : OW p l e R s m args below meth c Z B ml own nm rt n0 z0 T h kk nn) (hd : decode B pc = .ok (.lstore i, 2)) (hl : storeLocals L i (.long x) = some L') (hp : pc + 2 = pc')
    (k1 : OF p e below n1 z1 EN Q T (mkF m pc' L' S)) : OF p e below n1 z1 EN Q T (mkF m pc L (.long x :: S)) := by
  subst hp; exact OF.step (fun t q => XS.lstore W.here W.hx rfl (hb W.by hd) rfl hl q) k1
theorem o_lstoreG {i : Nat} {x : Int64} {Lf : Int64 → Array Slot} (W : OW p l e R s m args below meth c Z B ml own nm rt n0 z0 T h kk nn) (hd : decode B pc = .ok (.lstore i, 2)) (hl : storeLocals L i (.long x) = some (Lf x)) (hp : pc + 2 = pc')
    (k1 : ∀ v, v = x → OF p e below n1 z1 EN Q T (mkF m pc' (Lf v) S)) : OF p e below n1 z1 EN Q T (mkF m pc L (.long x :: S)) := o_lstore W hd hl hp (k1 x rfl)
theorem o_astoreN {i : Fin 4} {x : Value} (W : OW p l e R s m args below meth c Z B ml own nm rt n0 z0 T h kk nn) (hd : decode B pc = .ok (.astore_n i, 1)) (hv : x.isRef = true) (hl : storeLocals L i.val x = some L') (hp : pc + 1 = pc')
    (k1 : OF p e below n1 z1 EN Q T (mkF m pc' L' S)) : OF p e below n1 z1 EN Q T (mkF m pc L (x :: S)) := by
  subst hp; exact OF.step (fun t q => XS.astoreN W.here W.hx rfl (hb W.by hd) rfl hv hl q) k1
theorem o_astore {i : Nat} {x : Value} (W : OW p l e R s m args below meth c Z B ml own nm rt n0 z0 T h kk nn) (hd : decode B pc = .ok (.astore i, 2)) (hv : x.isRef = true) (hl : storeLocals L i x = some L') (hp : pc + 2 = pc')
    (k1 : OF p e below n1 z1 EN Q T (mkF m pc' L' S)) : OF p e below n1 z1 EN Q T (mkF m pc L (x :: S)) := by
  subst hp; exact OF.step (fun t q => XS.astore W.here W.hx rfl (hb W.by hd) rfl hv hl q) k1
theorem o_iconst {i : Int} {v : Int32} (W : OW p l e R s m args below meth c Z B ml own nm rt n0 z0 T h kk nn) (hd : decode B pc = .ok (.iconst i, 1)) (hv : Int32.ofInt i = v) (hp : pc + 1 = pc')
    (k1 : OF p e below n1 z1 EN Q T (mkF m pc' L (.int v :: S))) : OF p e below n1 z1 EN Q T (mkF m pc L S) := by
  subst hp hv; exact OF.step (fun t q => XS.iconst W.here W.hx rfl (hb W.by hd) q) k1
theorem o_bipush {i : Int} {v : Int32} (W : OW p l e R s m args below meth c Z B ml own nm rt n0 z0 T h kk nn) (hd : decode B pc = .ok (.bipush i, 2)) (hv : (Int8.ofInt i).toInt32 = v) (hp : pc + 2 = pc')
    (k1 : OF p e below n1 z1 EN Q T (mkF m pc' L (.int v :: S))) : OF p e below n1 z1 EN Q T (mkF m pc L S) := by
  subst hp hv; exact OF.step (fun t q => XS.bipush W.here W.hx rfl (hb W.by hd) q) k1
theorem o_sipush {i : Int} {v : Int32} (W : OW p l e R s m args below meth c Z B ml own nm rt n0 z0 T h kk nn) (hd : decode B pc = .ok (.sipush i, 3)) (hv : (Int16.ofInt i).toInt32 = v) (hp : pc + 3 = pc')
    (k1 : OF p e below n1 z1 EN Q T (mkF m pc' L (.int v :: S))) : OF p e below n1 z1 EN Q T (mkF m pc L S) := by
  subst hp hv; exact OF.step (fun t q => XS.sipush W.here W.hx rfl (hb W.by hd) q) k1
theorem o_lconst {i : Fin 2} {v : Int64} (W : OW p l e R s m args below meth c Z B ml own nm rt n0 z0 T h kk nn) (hd : decode B pc = .ok (.lconst i, 1)) (hv : Int64.ofNat i = v) (hp : pc + 1 = pc')
    (k1 : OF p e below n1 z1 EN Q T (mkF m pc' L (.long v :: S))) : OF p e below n1 z1 EN Q T (mkF m pc L S) := by
  subst hp hv; exact OF.step (fun t q => XS.lconst W.here W.hx rfl (hb W.by hd) q) k1
theorem o_ldc {i : Nat} {v : Int32} (W : OW p l e R s m args below meth c Z B ml own nm rt n0 z0 T h kk nn) (w : (Jvm.Cond.constant own i v).before a0 Z = true) (hd : decode B pc = .ok (.ldc i, 2)) (hp : pc + 2 = pc')
    (k1 : OF p e below n1 z1 EN Q T (mkF m pc' L (.int v :: S))) : OF p e below n1 z1 EN Q T (mkF m pc L S) := by
  subst hp; obtain ⟨_, X, _⟩ := W.2.2.2.2; exact OF.step (fun t q => X.ldcInt W.hx W.hown (mvT W.hZ w) (g := mkF m pc L S) rfl (hb W.by hd) t q) k1
theorem o_ldc_w {i : Nat} {v : Int32} (W : OW p l e R s m args below meth c Z B ml own nm rt n0 z0 T h kk nn) (w : (Jvm.Cond.constant own i v).before a0 Z = true) (hd : decode B pc = .ok (.ldc_w i, 3)) (hp : pc + 3 = pc')
    (k1 : OF p e below n1 z1 EN Q T (mkF m pc' L (.int v :: S))) : OF p e below n1 z1 EN Q T (mkF m pc L S) := by
  subst hp; obtain ⟨_, X, _⟩ := W.2.2.2.2; exact OF.step (fun t q => X.ldcwInt W.hx W.hown (mvT W.hZ w) (g := mkF m pc L S) rfl (hb W.by hd) t q) k1
theorem o_ldc2_w {i : Nat} {v : Int64} (W : OW p l e R s m args below meth c Z B ml own nm rt n0 z0 T h kk nn) (w : (Jvm.Cond.constantLong own i v).before a0 Z = true) (hd : decode B pc = .ok (.ldc2_w i, 3)) (hp : pc + 3 = pc')
    (k1 : OF p e below n1 z1 EN Q T (mkF m pc' L (.long v :: S))) : OF p e below n1 z1 EN Q T (mkF m pc L S) := by
  subst hp; obtain ⟨_, X, _⟩ := W.2.2.2.2; exact OF.step (fun t q => X.ldc2Long W.hx W.hown (mvT W.hZ w) (g := mkF m pc L S) rfl (hb W.by hd) t q) k1
theorem o_iadd {x y : Int32} (W : OW p l e R s m args below meth c Z B ml own nm rt n0 z0 T h kk nn) (hd : decode B pc = .ok (.iadd, 1)) (hp : pc + 1 = pc')
    (k1 : OF p e below n1 z1 EN Q T (mkF m pc' L (.int (x + y) :: S))) : OF p e below n1 z1 EN Q T (mkF m pc L (.int y :: .int x :: S)) := by
  subst hp; exact OF.step (fun t q => XS.iadd W.here W.hx rfl (hb W.by hd) rfl q) k1
theorem o_isub {x y : Int32} (W : OW p l e R s m args below meth c Z B ml own nm rt n0 z0 T h kk nn) (hd : decode B pc = .ok (.isub, 1)) (hp : pc + 1 = pc')
    (k1 : OF p e below n1 z1 EN Q T (mkF m pc' L (.int (x - y) :: S))) : OF p e below n1 z1 EN Q T (mkF m pc L (.int y :: .int x :: S)) := by
  subst hp; exact OF.step (fun t q => XS.isub W.here W.hx rfl (hb W.by hd) rfl q) k1
theorem o_imul {x y : Int32} (W : OW p l e R s m args below meth c Z B ml own nm rt n0 z0 T h kk nn) (hd : decode B pc = .ok (.imul, 1)) (hp : pc + 1 = pc')
    (k1 : OF p e below n1 z1 EN Q T (mkF m pc' L (.int (x * y) :: S))) : OF p e below n1 z1 EN Q T (mkF m pc L (.int y :: .int x :: S)) := by
  subst hp; exact OF.step (fun t q => XS.imul W.here W.hx rfl (hb W.by hd) rfl q) k1
theorem o_iand {x y : Int32} (W : OW p l e R s m args below meth c Z B ml own nm rt n0 z0 T h kk nn) (hd : decode B pc = .ok (.iand, 1)) (hp : pc + 1 = pc')
    (k1 : OF p e below n1 z1 EN Q T (mkF m pc' L (.int (x &&& y) :: S))) : OF p e below n1 z1 EN Q T (mkF m pc L (.int y :: .int x :: S)) := by
  subst hp; exact OF.step (fun t q => XS.iand W.here W.hx rfl (hb W.by hd) rfl q) k1
theorem o_ior {x y : Int32} (W : OW p l e R s m args below meth c Z B ml own nm rt n0 z0 T h kk nn) (hd : decode B pc = .ok (.ior, 1)) (hp : pc + 1 = pc')
    (k1 : OF p e below n1 z1 EN Q T (mkF m pc' L (.int (x ||| y) :: S))) : OF p e below n1 z1 EN Q T (mkF m pc L (.int y :: .int x :: S)) := by
  subst hp; exact OF.step (fun t q => XS.ior W.here W.hx rfl (hb W.by hd) rfl q) k1
theorem o_ixor {x y : Int32} (W : OW p l e R s m args below meth c Z B ml own nm rt n0 z0 T h kk nn) (hd : decode B pc = .ok (.ixor, 1)) (hp : pc + 1 = pc')
    (k1 : OF p e below n1 z1 EN Q T (mkF m pc' L (.int (x ^^^ y) :: S))) : OF p e below n1 z1 EN Q T (mkF m pc L (.int y :: .int x :: S)) := by
  subst hp; exact OF.step (fun t q => XS.ixor W.here W.hx rfl (hb W.by hd) rfl q) k1
theorem o_ishl {x y : Int32} (W : OW p l e R s m args below meth c Z B ml own nm rt n0 z0 T h kk nn) (hd : decode B pc = .ok (.ishl, 1)) (hp : pc + 1 = pc')
    (k1 : OF p e below n1 z1 EN Q T (mkF m pc' L (.int (x <<< (y &&& 31)) :: S))) : OF p e below n1 z1 EN Q T (mkF m pc L (.int y :: .int x :: S)) := by
  subst hp; exact OF.step (fun t q => XS.ishl W.here W.hx rfl (hb W.by hd) rfl q) k1
theorem o_ishr {x y : Int32} (W : OW p l e R s m args below meth c Z B ml own nm rt n0 z0 T h kk nn) (hd : decode B pc = .ok (.ishr, 1)) (hp : pc + 1 = pc')
    (k1 : OF p e below n1 z1 EN Q T (mkF m pc' L (.int (x >>> (y &&& 31)) :: S))) : OF p e below n1 z1 EN Q T (mkF m pc L (.int y :: .int x :: S)) := by
  subst hp; exact OF.step (fun t q => XS.ishr W.here W.hx rfl (hb W.by hd) rfl q) k1
theorem o_iushr {x y : Int32} (W : OW p l e R s m args below meth c Z B ml own nm rt n0 z0 T h kk nn) (hd : decode B pc = .ok (.iushr, 1)) (hp : pc + 1 = pc')
    (k1 : OF p e below n1 z1 EN Q T (mkF m pc' L (.int ((x.toUInt32 >>> (y &&& 31).toUInt32).toInt32) :: S))) : OF p e below n1 z1 EN Q T (mkF m pc L (.int y :: .int x :: S)) := by
  subst hp; exact OF.step (fun t q => XS.iushr W.here W.hx rfl (hb W.by hd) rfl q) k1
theorem o_idiv {x y : Int32} (W : OW p l e R s m args below meth c Z B ml own nm rt n0 z0 T h kk nn) (hd : decode B pc = .ok (.idiv, 1)) (hy : y ≠ 0) (hp : pc + 1 = pc')
    (k1 : OF p e below n1 z1 EN Q T (mkF m pc' L (.int (x / y) :: S))) : OF p e below n1 z1 EN Q T (mkF m pc L (.int y :: .int x :: S)) := by
  subst hp; exact OF.step (fun t q => XS.idiv W.here W.hx rfl (hb W.by hd) rfl hy q) k1
theorem o_irem {x y : Int32} (W : OW p l e R s m args below meth c Z B ml own nm rt n0 z0 T h kk nn) (hd : decode B pc = .ok (.irem, 1)) (hy : y ≠ 0) (hp : pc + 1 = pc')
    (k1 : OF p e below n1 z1 EN Q T (mkF m pc' L (.int (x - (x / y) * y) :: S))) : OF p e below n1 z1 EN Q T (mkF m pc L (.int y :: .int x :: S)) := by
  subst hp; exact OF.step (fun t q => XS.irem W.here W.hx rfl (hb W.by hd) rfl hy q) k1
theorem o_ladd {x y : Int64} (W : OW p l e R s m args below meth c Z B ml own nm rt n0 z0 T h kk nn) (hd : decode B pc = .ok (.ladd, 1)) (hp : pc + 1 = pc')
    (k1 : OF p e below n1 z1 EN Q T (mkF m pc' L (.long (x + y) :: S))) : OF p e below n1 z1 EN Q T (mkF m pc L (.long y :: .long x :: S)) := by
  subst hp; exact OF.step (fun t q => XS.ladd W.here W.hx rfl (hb W.by hd) rfl q) k1
theorem o_lsub {x y : Int64} (W : OW p l e R s m args below meth c Z B ml own nm rt n0 z0 T h kk nn) (hd : decode B pc = .ok (.lsub, 1)) (hp : pc + 1 = pc')
    (k1 : OF p e below n1 z1 EN Q T (mkF m pc' L (.long (x - y) :: S))) : OF p e below n1 z1 EN Q T (mkF m pc L (.long y :: .long x :: S)) := by
  subst hp; exact OF.step (fun t q => XS.lsub W.here W.hx rfl (hb W.by hd) rfl q) k1
theorem o_lmul {x y : Int64} (W : OW p l e R s m args below meth c Z B ml own nm rt n0 z0 T h kk nn) (hd : decode B pc = .ok (.lmul, 1)) (hp : pc + 1 = pc')
    (k1 : OF p e below n1 z1 EN Q T (mkF m pc' L (.long (x * y) :: S))) : OF p e below n1 z1 EN Q T (mkF m pc L (.long y :: .long x :: S)) := by
  subst hp; exact OF.step (fun t q => XS.lmul W.here W.hx rfl (hb W.by hd) rfl q) k1
theorem o_land {x y : Int64} (W : OW p l e R s m args below meth c Z B ml own nm rt n0 z0 T h kk nn) (hd : decode B pc = .ok (.land, 1)) (hp : pc + 1 = pc')
    (k1 : OF p e below n1 z1 EN Q T (mkF m pc' L (.long (x &&& y) :: S))) : OF p e below n1 z1 EN Q T (mkF m pc L (.long y :: .long x :: S)) := by
  subst hp; exact OF.step (fun t q => XS.land W.here W.hx rfl (hb W.by hd) rfl q) k1
theorem o_lor {x y : Int64} (W : OW p l e R s m args below meth c Z B ml own nm rt n0 z0 T h kk nn) (hd : decode B pc = .ok (.lor, 1)) (hp : pc + 1 = pc')
    (k1 : OF p e below n1 z1 EN Q T (mkF m pc' L (.long (x ||| y) :: S))) : OF p e below n1 z1 EN Q T (mkF m pc L (.long y :: .long x :: S)) := by
  subst hp; exact OF.step (fun t q => XS.lor W.here W.hx rfl (hb W.by hd) rfl q) k1
theorem o_lxor {x y : Int64} (W : OW p l e R s m args below meth c Z B ml own nm rt n0 z0 T h kk nn) (hd : decode B pc = .ok (.lxor, 1)) (hp : pc + 1 = pc')
    (k1 : OF p e below n1 z1 EN Q T (mkF m pc' L (.long (x ^^^ y) :: S))) : OF p e below n1 z1 EN Q T (mkF m pc L (.long y :: .long x :: S)) := by
  subst hp; exact OF.step (fun t q => XS.lxor W.here W.hx rfl (hb W.by hd) rfl q) k1
theorem o_ldiv {x y : Int64} (W : OW p l e R s m args below meth c Z B ml own nm rt n0 z0 T h kk nn) (hd : decode B pc = .ok (.ldiv, 1)) (hy : y ≠ 0) (hp : pc + 1 = pc')
    (k1 : OF p e below n1 z1 EN Q T (mkF m pc' L (.long (x / y) :: S))) : OF p e below n1 z1 EN Q T (mkF m pc L (.long y :: .long x :: S)) := by
  subst hp; exact OF.step (fun t q => XS.ldiv W.here W.hx rfl (hb W.by hd) rfl hy q) k1
theorem o_lrem {x y : Int64} (W : OW p l e R s m args below meth c Z B ml own nm rt n0 z0 T h kk nn) (hd : decode B pc = .ok (.lrem, 1)) (hy : y ≠ 0) (hp : pc + 1 = pc')
    (k1 : OF p e below n1 z1 EN Q T (mkF m pc' L (.long (x - (x / y) * y) :: S))) : OF p e below n1 z1 EN Q T (mkF m pc L (.long y :: .long x :: S)) := by
  subst hp; exact OF.step (fun t q => XS.lrem W.here W.hx rfl (hb W.by hd) rfl hy q) k1
theorem o_lshl {x : Int64} {y : Int32} (W : OW p l e R s m args below meth c Z B ml own nm rt n0 z0 T h kk nn) (hd : decode B pc = .ok (.lshl, 1)) (hp : pc + 1 = pc')
    (k1 : OF p e below n1 z1 EN Q T (mkF m pc' L (.long (x <<< (y &&& 0x3f).toInt64) :: S))) : OF p e below n1 z1 EN Q T (mkF m pc L (.int y :: .long x :: S)) := by
  subst hp; exact OF.step (fun t q => XS.lshl W.here W.hx rfl (hb W.by hd) rfl q) k1
theorem o_lshr {x : Int64} {y : Int32} (W : OW p l e R s m args below meth c Z B ml own nm rt n0 z0 T h kk nn) (hd : decode B pc = .ok (.lshr, 1)) (hp : pc + 1 = pc')
    (k1 : OF p e below n1 z1 EN Q T (mkF m pc' L (.long (x >>> (y &&& 0x3f).toInt64) :: S))) : OF p e below n1 z1 EN Q T (mkF m pc L (.int y :: .long x :: S)) := by
  subst hp; exact OF.step (fun t q => XS.lshr W.here W.hx rfl (hb W.by hd) rfl q) k1
theorem o_lushr {x : Int64} {y : Int32} (W : OW p l e R s m args below meth c Z B ml own nm rt n0 z0 T h kk nn) (hd : decode B pc = .ok (.lushr, 1)) (hp : pc + 1 = pc')
    (k1 : OF p e below n1 z1 EN Q T (mkF m pc' L (.long ((x.toUInt64 >>> (y &&& 0x3f).toInt64.toUInt64).toInt64) :: S))) : OF p e below n1 z1 EN Q T (mkF m pc L (.int y :: .long x :: S)) := by
  subst hp; exact OF.step (fun t q => XS.lushr W.here W.hx rfl (hb W.by hd) rfl q) k1
theorem o_i2b {x : Int32} (W : OW p l e R s m args below meth c Z B ml own nm rt n0 z0 T h kk nn) (hd : decode B pc = .ok (.i2b, 1)) (hp : pc + 1 = pc')
    (k1 : OF p e below n1 z1 EN Q T (mkF m pc' L (.int (x.toInt8.toInt32) :: S))) : OF p e below n1 z1 EN Q T (mkF m pc L (.int x :: S)) := by
  subst hp; exact OF.step (fun t q => XS.i2b W.here W.hx rfl (hb W.by hd) rfl q) k1
theorem o_i2c {x : Int32} (W : OW p l e R s m args below meth c Z B ml own nm rt n0 z0 T h kk nn) (hd : decode B pc = .ok (.i2c, 1)) (hp : pc + 1 = pc')
    (k1 : OF p e below n1 z1 EN Q T (mkF m pc' L (.int (x.toUInt32.toUInt16.toUInt32.toInt32) :: S))) : OF p e below n1 z1 EN Q T (mkF m pc L (.int x :: S)) := by
  subst hp; exact OF.step (fun t q => XS.i2c W.here W.hx rfl (hb W.by hd) rfl q) k1
theorem o_i2s {x : Int32} (W : OW p l e R s m args below meth c Z B ml own nm rt n0 z0 T h kk nn) (hd : decode B pc = .ok (.i2s, 1)) (hp : pc + 1 = pc')
    (k1 : OF p e below n1 z1 EN Q T (mkF m pc' L (.int (x.toInt16.toInt32) :: S))) : OF p e below n1 z1 EN Q T (mkF m pc L (.int x :: S)) := by
  subst hp; exact OF.step (fun t q => XS.i2s W.here W.hx rfl (hb W.by hd) rfl q) k1
theorem o_i2l {x : Int32} (W : OW p l e R s m args below meth c Z B ml own nm rt n0 z0 T h kk nn) (hd : decode B pc = .ok (.i2l, 1)) (hp : pc + 1 = pc')
    (k1 : OF p e below n1 z1 EN Q T (mkF m pc' L (.long (x.toInt64) :: S))) : OF p e below n1 z1 EN Q T (mkF m pc L (.int x :: S)) := by
  subst hp; exact OF.step (fun t q => XS.i2l W.here W.hx rfl (hb W.by hd) rfl q) k1
theorem o_l2i {x : Int64} (W : OW p l e R s m args below meth c Z B ml own nm rt n0 z0 T h kk nn) (hd : decode B pc = .ok (.l2i, 1)) (hp : pc + 1 = pc')
    (k1 : OF p e below n1 z1 EN Q T (mkF m pc' L (.int (x.toInt32) :: S))) : OF p e below n1 z1 EN Q T (mkF m pc L (.long x :: S)) := by
  subst hp; exact OF.step (fun t q => XS.l2i W.here W.hx rfl (hb W.by hd) rfl q) k1
theorem o_dup {x : Value} (W : OW p l e R s m args below meth c Z B ml own nm rt n0 z0 T h kk nn) (hd : decode B pc = .ok (.dup, 1)) (hc : x.category = 1) (hp : pc + 1 = pc')
    (k1 : OF p e below n1 z1 EN Q T (mkF m pc' L (x :: x :: S))) : OF p e below n1 z1 EN Q T (mkF m pc L (x :: S)) := by
  subst hp; exact OF.step (fun t q => XS.dup W.here W.hx rfl (hb W.by hd) rfl hc q) k1
theorem o_pop {x : Value} (W : OW p l e R s m args below meth c Z B ml own nm rt n0 z0 T h kk nn) (hd : decode B pc = .ok (.pop, 1)) (hc : x.category = 1) (hp : pc + 1 = pc')
    (k1 : OF p e below n1 z1 EN Q T (mkF m pc' L S)) : OF p e below n1 z1 EN Q T (mkF m pc L (x :: S)) := by
  subst hp; exact OF.step (fun t q => XS.pop W.here W.hx rfl (hb W.by hd) rfl hc q) k1
theorem o_dup2 {x y : Value} (W : OW p l e R s m args below meth c Z B ml own nm rt n0 z0 T h kk nn) (hd : decode B pc = .ok (.dup2, 1)) (hc : x.category = 1) (hc' : y.category = 1) (hp : pc + 1 = pc')
    (k1 : OF p e below n1 z1 EN Q T (mkF m pc' L (x :: y :: x :: y :: S))) : OF p e below n1 z1 EN Q T (mkF m pc L (x :: y :: S)) := by
  subst hp; exact OF.step (fun t q => XT.dup2 W.here W.hx rfl (hb W.by hd) rfl hc hc' q) k1
theorem o_iinc {i : Nat} {z : Int} {x : Int32} (W : OW p l e R s m args below meth c Z B ml own nm rt n0 z0 T h kk nn) (hd : decode B pc = .ok (.iinc i z, 3)) (hl : L[i]? = some (.val (.int x))) (hl' : storeLocals L i (.int (x + Int32.ofInt z)) = some L') (hp : pc + 3 = pc')
    (k1 : OF p e below n1 z1 EN Q T (mkF m pc' L' S)) : OF p e below n1 z1 EN Q T (mkF m pc L S) := by
  subst hp; exact OF.step (fun t q => XS.iinc W.here W.hx rfl (hb W.by hd) hl hl' q) k1
theorem o_goto {o : Int} (W : OW p l e R s m args below meth c Z B ml own nm rt n0 z0 T h kk nn) (hd : decode B pc = .ok (.goto o, 3)) (ho : 0 ≤ (pc : Int) + o) (hq : ((pc : Int) + o).toNat = pq)
    (k1 : OF p e below n1 z1 EN Q T (mkF m pq L S)) : OF p e below n1 z1 EN Q T (mkF m pc L S) := OF.step (fun t q => XS.goto W.here W.hx rfl rfl (hb W.by hd) ho hq q) k1
theorem o_lt {x y : Int32} (q : x.toInt < y.toInt) : x < y := Int32.lt_iff_toInt_lt.mpr q
theorem o_nlt {x y : Int32} (q : y.toInt ≤ x.toInt) : ¬ x < y := fun z => by rw [Int32.lt_iff_toInt_lt] at z; omega
theorem o_eq {x y : Int32} (q : x.toInt = y.toInt) : x = y := Int32.toInt_inj.mp q
theorem o_ne {x y : Int32} (q : ¬ x.toInt = y.toInt) : ¬ x = y := fun z => q (congrArg Int32.toInt z)
theorem o_zero : (0 : Int32).toInt = 0 := rfl
theorem o_llt {x y : Int64} (q : x.toInt < y.toInt) : x < y := Int64.lt_iff_toInt_lt.mpr q
theorem o_nllt {x y : Int64} (q : y.toInt ≤ x.toInt) : ¬ x < y := fun z => by rw [Int64.lt_iff_toInt_lt] at z; omega
theorem o_leq {x y : Int64} (q : x.toInt = y.toInt) : x = y := Int64.toInt_inj.mp q
theorem o_lne {x y : Int64} (q : ¬ x.toInt = y.toInt) : ¬ x = y := fun z => q (congrArg Int64.toInt z)
theorem o_icmp_lt {x y : Int32} {o : Int} (W : OW p l e R s m args below meth c Z B ml own nm rt n0 z0 T h kk nn) (hd : decode B pc = .ok (.if_icmp .lt o, 3)) (ho : 0 ≤ (pc : Int) + o) (hq : ((pc : Int) + o).toNat = pq) (hp : pc + 3 = pc')
    (ky : x.toInt < y.toInt → OF p e below n1 z1 EN Q T (mkF m pq L S)) (kn : y.toInt ≤ x.toInt → OF p e below n1 z1 EN Q T (mkF m pc' L S)) : OF p e below n1 z1 EN Q T (mkF m pc L (.int y :: .int x :: S)) := by
  subst hp
  rcases Int.lt_or_le (x.toInt) (y.toInt) with q | q
  · exact OF.step (fun t z => XS.icmpYes W.here W.hx rfl rfl (hb W.by hd) rfl (tlt (o_lt q)).1 ho hq z) (ky q)
  · exact OF.step (fun t z => XS.icmpNo W.here W.hx rfl (hb W.by hd) rfl (flt (o_nlt q)).1 z) (kn q)
theorem o_icmp_ge {x y : Int32} {o : Int} (W : OW p l e R s m args below meth c Z B ml own nm rt n0 z0 T h kk nn) (hd : decode B pc = .ok (.if_icmp .ge o, 3)) (ho : 0 ≤ (pc : Int) + o) (hq : ((pc : Int) + o).toNat = pq) (hp : pc + 3 = pc')
    (ky : y.toInt ≤ x.toInt → OF p e below n1 z1 EN Q T (mkF m pq L S)) (kn : x.toInt < y.toInt → OF p e below n1 z1 EN Q T (mkF m pc' L S)) : OF p e below n1 z1 EN Q T (mkF m pc L (.int y :: .int x :: S)) := by
  subst hp
  rcases (Int.lt_or_le (x.toInt) (y.toInt)).symm with q | q
  · exact OF.step (fun t z => XS.icmpYes W.here W.hx rfl rfl (hb W.by hd) rfl (flt (o_nlt q)).2.1 ho hq z) (ky q)
  · exact OF.step (fun t z => XS.icmpNo W.here W.hx rfl (hb W.by hd) rfl (tlt (o_lt q)).2.1 z) (kn q)
theorem o_icmp_gt {x y : Int32} {o : Int} (W : OW p l e R s m args below meth c Z B ml own nm rt n0 z0 T h kk nn) (hd : decode B pc = .ok (.if_icmp .gt o, 3)) (ho : 0 ≤ (pc : Int) + o) (hq : ((pc : Int) + o).toNat = pq) (hp : pc + 3 = pc')
    (ky : y.toInt < x.toInt → OF p e below n1 z1 EN Q T (mkF m pq L S)) (kn : x.toInt ≤ y.toInt → OF p e below n1 z1 EN Q T (mkF m pc' L S)) : OF p e below n1 z1 EN Q T (mkF m pc L (.int y :: .int x :: S)) := by
  subst hp
  rcases Int.lt_or_le (y.toInt) (x.toInt) with q | q
  · exact OF.step (fun t z => XS.icmpYes W.here W.hx rfl rfl (hb W.by hd) rfl (tlt (o_lt q)).2.2.1 ho hq z) (ky q)
  · exact OF.step (fun t z => XS.icmpNo W.here W.hx rfl (hb W.by hd) rfl (flt (o_nlt q)).2.2.1 z) (kn q)
theorem o_icmp_le {x y : Int32} {o : Int} (W : OW p l e R s m args below meth c Z B ml own nm rt n0 z0 T h kk nn) (hd : decode B pc = .ok (.if_icmp .le o, 3)) (ho : 0 ≤ (pc : Int) + o) (hq : ((pc : Int) + o).toNat = pq) (hp : pc + 3 = pc')
    (ky : x.toInt ≤ y.toInt → OF p e below n1 z1 EN Q T (mkF m pq L S)) (kn : y.toInt < x.toInt → OF p e below n1 z1 EN Q T (mkF m pc' L S)) : OF p e below n1 z1 EN Q T (mkF m pc L (.int y :: .int x :: S)) := by
  subst hp
  rcases (Int.lt_or_le (y.toInt) (x.toInt)).symm with q | q
  · exact OF.step (fun t z => XS.icmpYes W.here W.hx rfl rfl (hb W.by hd) rfl (flt (o_nlt q)).2.2.2 ho hq z) (ky q)
  · exact OF.step (fun t z => XS.icmpNo W.here W.hx rfl (hb W.by hd) rfl (tlt (o_lt q)).2.2.2 z) (kn q)
theorem o_icmp_eq {x y : Int32} {o : Int} (W : OW p l e R s m args below meth c Z B ml own nm rt n0 z0 T h kk nn) (hd : decode B pc = .ok (.if_icmp .eq o, 3)) (ho : 0 ≤ (pc : Int) + o) (hq : ((pc : Int) + o).toNat = pq) (hp : pc + 3 = pc')
    (ky : x.toInt = y.toInt → OF p e below n1 z1 EN Q T (mkF m pq L S)) (kn : ¬ x.toInt = y.toInt → OF p e below n1 z1 EN Q T (mkF m pc' L S)) : OF p e below n1 z1 EN Q T (mkF m pc L (.int y :: .int x :: S)) := by
  subst hp
  rcases Decidable.em (x.toInt = y.toInt) with q | q
  · exact OF.step (fun t z => XS.icmpYes W.here W.hx rfl rfl (hb W.by hd) rfl (teq (o_eq q)).1 ho hq z) (ky q)
  · exact OF.step (fun t z => XS.icmpNo W.here W.hx rfl (hb W.by hd) rfl (feq (o_ne q)).1 z) (kn q)
theorem o_icmp_ne {x y : Int32} {o : Int} (W : OW p l e R s m args below meth c Z B ml own nm rt n0 z0 T h kk nn) (hd : decode B pc = .ok (.if_icmp .ne o, 3)) (ho : 0 ≤ (pc : Int) + o) (hq : ((pc : Int) + o).toNat = pq) (hp : pc + 3 = pc')
    (ky : ¬ x.toInt = y.toInt → OF p e below n1 z1 EN Q T (mkF m pq L S)) (kn : x.toInt = y.toInt → OF p e below n1 z1 EN Q T (mkF m pc' L S)) : OF p e below n1 z1 EN Q T (mkF m pc L (.int y :: .int x :: S)) := by
  subst hp
  rcases (Decidable.em (x.toInt = y.toInt)).symm with q | q
  · exact OF.step (fun t z => XS.icmpYes W.here W.hx rfl rfl (hb W.by hd) rfl (feq (o_ne q)).2 ho hq z) (ky q)
  · exact OF.step (fun t z => XS.icmpNo W.here W.hx rfl (hb W.by hd) rfl (teq (o_eq q)).2 z) (kn q)
theorem o_if_lt {x : Int32} {o : Int} (W : OW p l e R s m args below meth c Z B ml own nm rt n0 z0 T h kk nn) (hd : decode B pc = .ok (.ifCond .lt o, 3)) (ho : 0 ≤ (pc : Int) + o) (hq : ((pc : Int) + o).toNat = pq) (hp : pc + 3 = pc')
    (ky : x.toInt < 0 → OF p e below n1 z1 EN Q T (mkF m pq L S)) (kn : 0 ≤ x.toInt → OF p e below n1 z1 EN Q T (mkF m pc' L S)) : OF p e below n1 z1 EN Q T (mkF m pc L (.int x :: S)) := by
  subst hp
  rcases Int.lt_or_le (x.toInt) (0) with q | q
  · exact OF.step (fun t z => XS.ifYes W.here W.hx rfl rfl (hb W.by hd) rfl ((if0 _ _).trans (tlt (o_lt (x := x) (y := 0) q)).1) ho hq z) (ky q)
  · exact OF.step (fun t z => XS.ifNo W.here W.hx rfl (hb W.by hd) rfl ((if0 _ _).trans (flt (o_nlt (x := x) (y := 0) q)).1) z) (kn q)
theorem o_if_ge {x : Int32} {o : Int} (W : OW p l e R s m args below meth c Z B ml own nm rt n0 z0 T h kk nn) (hd : decode B pc = .ok (.ifCond .ge o, 3)) (ho : 0 ≤ (pc : Int) + o) (hq : ((pc : Int) + o).toNat = pq) (hp : pc + 3 = pc')
    (ky : 0 ≤ x.toInt → OF p e below n1 z1 EN Q T (mkF m pq L S)) (kn : x.toInt < 0 → OF p e below n1 z1 EN Q T (mkF m pc' L S)) : OF p e below n1 z1 EN Q T (mkF m pc L (.int x :: S)) := by
  subst hp
  rcases (Int.lt_or_le (x.toInt) (0)).symm with q | q
  · exact OF.step (fun t z => XS.ifYes W.here W.hx rfl rfl (hb W.by hd) rfl ((if0 _ _).trans (flt (o_nlt (x := x) (y := 0) q)).2.1) ho hq z) (ky q)
  · exact OF.step (fun t z => XS.ifNo W.here W.hx rfl (hb W.by hd) rfl ((if0 _ _).trans (tlt (o_lt (x := x) (y := 0) q)).2.1) z) (kn q)
theorem o_if_gt {x : Int32} {o : Int} (W : OW p l e R s m args below meth c Z B ml own nm rt n0 z0 T h kk nn) (hd : decode B pc = .ok (.ifCond .gt o, 3)) (ho : 0 ≤ (pc : Int) + o) (hq : ((pc : Int) + o).toNat = pq) (hp : pc + 3 = pc')
    (ky : 0 < x.toInt → OF p e below n1 z1 EN Q T (mkF m pq L S)) (kn : x.toInt ≤ 0 → OF p e below n1 z1 EN Q T (mkF m pc' L S)) : OF p e below n1 z1 EN Q T (mkF m pc L (.int x :: S)) := by
  subst hp
  rcases Int.lt_or_le (0) (x.toInt) with q | q
  · exact OF.step (fun t z => XS.ifYes W.here W.hx rfl rfl (hb W.by hd) rfl ((if0 _ _).trans (tlt (o_lt (x := 0) (y := x) q)).2.2.1) ho hq z) (ky q)
  · exact OF.step (fun t z => XS.ifNo W.here W.hx rfl (hb W.by hd) rfl ((if0 _ _).trans (flt (o_nlt (x := 0) (y := x) q)).2.2.1) z) (kn q)
theorem o_if_le {x : Int32} {o : Int} (W : OW p l e R s m args below meth c Z B ml own nm rt n0 z0 T h kk nn) (hd : decode B pc = .ok (.ifCond .le o, 3)) (ho : 0 ≤ (pc : Int) + o) (hq : ((pc : Int) + o).toNat = pq) (hp : pc + 3 = pc')
    (ky : x.toInt ≤ 0 → OF p e below n1 z1 EN Q T (mkF m pq L S)) (kn : 0 < x.toInt → OF p e below n1 z1 EN Q T (mkF m pc' L S)) : OF p e below n1 z1 EN Q T (mkF m pc L (.int x :: S)) := by
  subst hp
  rcases (Int.lt_or_le (0) (x.toInt)).symm with q | q
  · exact OF.step (fun t z => XS.ifYes W.here W.hx rfl rfl (hb W.by hd) rfl ((if0 _ _).trans (flt (o_nlt (x := 0) (y := x) q)).2.2.2) ho hq z) (ky q)
  · exact OF.step (fun t z => XS.ifNo W.here W.hx rfl (hb W.by hd) rfl ((if0 _ _).trans (tlt (o_lt (x := 0) (y := x) q)).2.2.2) z) (kn q)
theorem o_if_eq {x : Int32} {o : Int} (W : OW p l e R s m args below meth c Z B ml own nm rt n0 z0 T h kk nn) (hd : decode B pc = .ok (.ifCond .eq o, 3)) (ho : 0 ≤ (pc : Int) + o) (hq : ((pc : Int) + o).toNat = pq) (hp : pc + 3 = pc')
    (ky : x.toInt = 0 → OF p e below n1 z1 EN Q T (mkF m pq L S)) (kn : ¬ x.toInt = 0 → OF p e below n1 z1 EN Q T (mkF m pc' L S)) : OF p e below n1 z1 EN Q T (mkF m pc L (.int x :: S)) := by
  subst hp
  rcases Decidable.em (x.toInt = 0) with q | q
  · exact OF.step (fun t z => XS.ifYes W.here W.hx rfl rfl (hb W.by hd) rfl ((if0 _ _).trans (teq (o_eq (x := x) (y := 0) q)).1) ho hq z) (ky q)
  · exact OF.step (fun t z => XS.ifNo W.here W.hx rfl (hb W.by hd) rfl ((if0 _ _).trans (feq (o_ne (x := x) (y := 0) q)).1) z) (kn q)
theorem o_if_ne {x : Int32} {o : Int} (W : OW p l e R s m args below meth c Z B ml own nm rt n0 z0 T h kk nn) (hd : decode B pc = .ok (.ifCond .ne o, 3)) (ho : 0 ≤ (pc : Int) + o) (hq : ((pc : Int) + o).toNat = pq) (hp : pc + 3 = pc')
    (ky : ¬ x.toInt = 0 → OF p e below n1 z1 EN Q T (mkF m pq L S)) (kn : x.toInt = 0 → OF p e below n1 z1 EN Q T (mkF m pc' L S)) : OF p e below n1 z1 EN Q T (mkF m pc L (.int x :: S)) := by
  subst hp
  rcases (Decidable.em (x.toInt = 0)).symm with q | q
  · exact OF.step (fun t z => XS.ifYes W.here W.hx rfl rfl (hb W.by hd) rfl ((if0 _ _).trans (feq (o_ne (x := x) (y := 0) q)).2) ho hq z) (ky q)
  · exact OF.step (fun t z => XS.ifNo W.here W.hx rfl (hb W.by hd) rfl ((if0 _ _).trans (teq (o_eq (x := x) (y := 0) q)).2) z) (kn q)
theorem o_lcmp_lt {x y : Int64} {o : Int} {pc1 : Nat} (W : OW p l e R s m args below meth c Z B ml own nm rt n0 z0 T h kk nn) (hd : decode B pc = .ok (.lcmp, 1)) (h1 : pc + 1 = pc1) (hd2 : decode B pc1 = .ok (.ifCond .lt o, 3)) (ho : 0 ≤ (pc1 : Int) + o) (hq : ((pc1 : Int) + o).toNat = pq) (hp : pc1 + 3 = pc')
    (ky : x.toInt < y.toInt → OF p e below n1 z1 EN Q T (mkF m pq L S)) (kn : y.toInt ≤ x.toInt → OF p e below n1 z1 EN Q T (mkF m pc' L S)) : OF p e below n1 z1 EN Q T (mkF m pc L (.long y :: .long x :: S)) := by
  subst h1; subst hp
  refine OF.step (T' := T) (f' := mkF m (pc + 1) L (.int (lcmpW x y) :: S)) (fun t z => XS.lcmp W.here W.hx rfl (hb W.by hd) rfl z) ?_
  rcases Int.lt_or_le (x.toInt) (y.toInt) with q | q
  · exact OF.step (fun t z => XS.ifYes W.here W.hx rfl rfl (hb W.by hd2) rfl ((if0 _ _).trans (tlt ((lw_lt x y).mpr (o_llt q))).1) ho hq z) (ky q)
  · exact OF.step (fun t z => XS.ifNo W.here W.hx rfl (hb W.by hd2) rfl ((if0 _ _).trans (flt (fun z => o_nllt q ((lw_lt x y).mp z))).1) z) (kn q)
theorem o_lcmp_ge {x y : Int64} {o : Int} {pc1 : Nat} (W : OW p l e R s m args below meth c Z B ml own nm rt n0 z0 T h kk nn) (hd : decode B pc = .ok (.lcmp, 1)) (h1 : pc + 1 = pc1) (hd2 : decode B pc1 = .ok (.ifCond .ge o, 3)) (ho : 0 ≤ (pc1 : Int) + o) (hq : ((pc1 : Int) + o).toNat = pq) (hp : pc1 + 3 = pc')
    (ky : y.toInt ≤ x.toInt → OF p e below n1 z1 EN Q T (mkF m pq L S)) (kn : x.toInt < y.toInt → OF p e below n1 z1 EN Q T (mkF m pc' L S)) : OF p e below n1 z1 EN Q T (mkF m pc L (.long y :: .long x :: S)) := by
  subst h1; subst hp
  refine OF.step (T' := T) (f' := mkF m (pc + 1) L (.int (lcmpW x y) :: S)) (fun t z => XS.lcmp W.here W.hx rfl (hb W.by hd) rfl z) ?_
  rcases (Int.lt_or_le (x.toInt) (y.toInt)).symm with q | q
  · exact OF.step (fun t z => XS.ifYes W.here W.hx rfl rfl (hb W.by hd2) rfl ((if0 _ _).trans (flt (fun z => o_nllt q ((lw_lt x y).mp z))).2.1) ho hq z) (ky q)
  · exact OF.step (fun t z => XS.ifNo W.here W.hx rfl (hb W.by hd2) rfl ((if0 _ _).trans (tlt ((lw_lt x y).mpr (o_llt q))).2.1) z) (kn q)
theorem o_lcmp_gt {x y : Int64} {o : Int} {pc1 : Nat} (W : OW p l e R s m args below meth c Z B ml own nm rt n0 z0 T h kk nn) (hd : decode B pc = .ok (.lcmp, 1)) (h1 : pc + 1 = pc1) (hd2 : decode B pc1 = .ok (.ifCond .gt o, 3)) (ho : 0 ≤ (pc1 : Int) + o) (hq : ((pc1 : Int) + o).toNat = pq) (hp : pc1 + 3 = pc')
    (ky : y.toInt < x.toInt → OF p e below n1 z1 EN Q T (mkF m pq L S)) (kn : x.toInt ≤ y.toInt → OF p e below n1 z1 EN Q T (mkF m pc' L S)) : OF p e below n1 z1 EN Q T (mkF m pc L (.long y :: .long x :: S)) := by
  subst h1; subst hp
  refine OF.step (T' := T) (f' := mkF m (pc + 1) L (.int (lcmpW x y) :: S)) (fun t z => XS.lcmp W.here W.hx rfl (hb W.by hd) rfl z) ?_
  rcases Int.lt_or_le (y.toInt) (x.toInt) with q | q
  · exact OF.step (fun t z => XS.ifYes W.here W.hx rfl rfl (hb W.by hd2) rfl ((if0 _ _).trans (tlt ((lw_gt x y).mpr (o_llt q))).2.2.1) ho hq z) (ky q)
  · exact OF.step (fun t z => XS.ifNo W.here W.hx rfl (hb W.by hd2) rfl ((if0 _ _).trans (flt (fun z => o_nllt q ((lw_gt x y).mp z))).2.2.1) z) (kn q)
theorem o_lcmp_le {x y : Int64} {o : Int} {pc1 : Nat} (W : OW p l e R s m args below meth c Z B ml own nm rt n0 z0 T h kk nn) (hd : decode B pc = .ok (.lcmp, 1)) (h1 : pc + 1 = pc1) (hd2 : decode B pc1 = .ok (.ifCond .le o, 3)) (ho : 0 ≤ (pc1 : Int) + o) (hq : ((pc1 : Int) + o).toNat = pq) (hp : pc1 + 3 = pc')
    (ky : x.toInt ≤ y.toInt → OF p e below n1 z1 EN Q T (mkF m pq L S)) (kn : y.toInt < x.toInt → OF p e below n1 z1 EN Q T (mkF m pc' L S)) : OF p e below n1 z1 EN Q T (mkF m pc L (.long y :: .long x :: S)) := by
  subst h1; subst hp
  refine OF.step (T' := T) (f' := mkF m (pc + 1) L (.int (lcmpW x y) :: S)) (fun t z => XS.lcmp W.here W.hx rfl (hb W.by hd) rfl z) ?_
  rcases (Int.lt_or_le (y.toInt) (x.toInt)).symm with q | q
  · exact OF.step (fun t z => XS.ifYes W.here W.hx rfl rfl (hb W.by hd2) rfl ((if0 _ _).trans (flt (fun z => o_nllt q ((lw_gt x y).mp z))).2.2.2) ho hq z) (ky q)
  · exact OF.step (fun t z => XS.ifNo W.here W.hx rfl (hb W.by hd2) rfl ((if0 _ _).trans (tlt ((lw_gt x y).mpr (o_llt q))).2.2.2) z) (kn q)
theorem o_lcmp_eq {x y : Int64} {o : Int} {pc1 : Nat} (W : OW p l e R s m args below meth c Z B ml own nm rt n0 z0 T h kk nn) (hd : decode B pc = .ok (.lcmp, 1)) (h1 : pc + 1 = pc1) (hd2 : decode B pc1 = .ok (.ifCond .eq o, 3)) (ho : 0 ≤ (pc1 : Int) + o) (hq : ((pc1 : Int) + o).toNat = pq) (hp : pc1 + 3 = pc')
    (ky : x.toInt = y.toInt → OF p e below n1 z1 EN Q T (mkF m pq L S)) (kn : ¬ x.toInt = y.toInt → OF p e below n1 z1 EN Q T (mkF m pc' L S)) : OF p e below n1 z1 EN Q T (mkF m pc L (.long y :: .long x :: S)) := by
  subst h1; subst hp
  refine OF.step (T' := T) (f' := mkF m (pc + 1) L (.int (lcmpW x y) :: S)) (fun t z => XS.lcmp W.here W.hx rfl (hb W.by hd) rfl z) ?_
  rcases Decidable.em (x.toInt = y.toInt) with q | q
  · exact OF.step (fun t z => XS.ifYes W.here W.hx rfl rfl (hb W.by hd2) rfl ((if0 _ _).trans (teq ((lw_eq x y).mpr (o_leq q))).1) ho hq z) (ky q)
  · exact OF.step (fun t z => XS.ifNo W.here W.hx rfl (hb W.by hd2) rfl ((if0 _ _).trans (feq (fun z => o_lne q ((lw_eq x y).mp z))).1) z) (kn q)
theorem o_lcmp_ne {x y : Int64} {o : Int} {pc1 : Nat} (W : OW p l e R s m args below meth c Z B ml own nm rt n0 z0 T h kk nn) (hd : decode B pc = .ok (.lcmp, 1)) (h1 : pc + 1 = pc1) (hd2 : decode B pc1 = .ok (.ifCond .ne o, 3)) (ho : 0 ≤ (pc1 : Int) + o) (hq : ((pc1 : Int) + o).toNat = pq) (hp : pc1 + 3 = pc')
    (ky : ¬ x.toInt = y.toInt → OF p e below n1 z1 EN Q T (mkF m pq L S)) (kn : x.toInt = y.toInt → OF p e below n1 z1 EN Q T (mkF m pc' L S)) : OF p e below n1 z1 EN Q T (mkF m pc L (.long y :: .long x :: S)) := by
  subst h1; subst hp
  refine OF.step (T' := T) (f' := mkF m (pc + 1) L (.int (lcmpW x y) :: S)) (fun t z => XS.lcmp W.here W.hx rfl (hb W.by hd) rfl z) ?_
  rcases (Decidable.em (x.toInt = y.toInt)).symm with q | q
  · exact OF.step (fun t z => XS.ifYes W.here W.hx rfl rfl (hb W.by hd2) rfl ((if0 _ _).trans (feq (fun z => o_lne q ((lw_eq x y).mp z))).2) ho hq z) (ky q)
  · exact OF.step (fun t z => XS.ifNo W.here W.hx rfl (hb W.by hd2) rfl ((if0 _ _).trans (teq ((lw_eq x y).mpr (o_leq q))).2) z) (kn q)
abbrev QI (P : Int32 → Heap → Prop) : Option Value → Heap → Prop := fun v h => ∃ r, v = some (.int r) ∧ P r h
abbrev QJ (P : Int64 → Heap → Prop) : Option Value → Heap → Prop := fun v h => ∃ r, v = some (.long r) ∧ P r h
abbrev QA (P : Addr → Heap → Prop) : Option Value → Heap → Prop := fun v h => ∃ r, v = some (.ref r) ∧ P r h
abbrev QV (P : Heap → Prop) : Option Value → Heap → Prop := fun v h => v = none ∧ P h
theorem o_retN {t : FieldType} {z : Int32} (W : OW p l e R s m args below meth c Z B ml own nm rt n0 z0 T h kk nn) (hrt : rt = some t) (ht : t = .boolean ∨ t = .byte ∨ t = .char ∨ t = .short) (hd : decode B pc = .ok (.ireturn, 1)) (hk : kk ≤ kc) (hn : nn ≤ ns) (hQ : Q (some (.int (nar t z))) h) :
    OF p e below n0 z0 (ENn s kc ns) Q T (mkF m pc L (.int z :: S)) := by
  obtain ⟨⟨hx, hZ, hby, hml, hown, hnm, hr, hlk⟩, hz, hz', rfl, locs, X, N⟩ := W
  subst hrt
  obtain ⟨fs, hl, h1, h2, h3, h4⟩ := X.leave (v := some (.int (nar t z))) (fun q => by rw [hr] at q; cases q) hlk
  exact ⟨_, _, retN X hx hr ht (hb hby hd) hl, h1, h2, _, _, rfl, ⟨hQ, hz', N⟩, ⟨_, rfl⟩, h3, h4.mono hk hn⟩
theorem o_retI {z : Int32} (W : OW p l e R s m args below meth c Z B ml own nm rt n0 z0 T h kk nn) (hrt : rt = some .int) (hd : decode B pc = .ok (.ireturn, 1)) (hk : kk ≤ kc) (hn : nn ≤ ns) (hQ : Q (some (.int z)) h) :
    OF p e below n0 z0 (ENn s kc ns) Q T (mkF m pc L (.int z :: S)) := by
  obtain ⟨⟨hx, hZ, hby, hml, hown, hnm, hr, hlk⟩, hz, hz', rfl, locs, X, N⟩ := W
  subst hrt
  obtain ⟨fs, hl, h1, h2, h3, h4⟩ := X.leave (v := some (.int z)) (fun q => by rw [hr] at q; cases q) hlk
  exact ⟨_, _, retOut X hx hr rfl (Or.inl ⟨rfl, Or.inl rfl, _, rfl⟩) (hb hby hd) hl, h1, h2, _, _, rfl, ⟨hQ, hz', N⟩, ⟨_, rfl⟩, h3, h4.mono hk hn⟩
theorem o_retJ {z : Int64} (W : OW p l e R s m args below meth c Z B ml own nm rt n0 z0 T h kk nn) (hrt : rt = some .long) (hd : decode B pc = .ok (.lreturn, 1)) (hk : kk ≤ kc) (hn : nn ≤ ns) (hQ : Q (some (.long z)) h) :
    OF p e below n0 z0 (ENn s kc ns) Q T (mkF m pc L (.long z :: S)) := by
  obtain ⟨⟨hx, hZ, hby, hml, hown, hnm, hr, hlk⟩, hz, hz', rfl, locs, X, N⟩ := W
  subst hrt
  obtain ⟨fs, hl, h1, h2, h3, h4⟩ := X.leave (v := some (.long z)) (fun q => by rw [hr] at q; cases q) hlk
  exact ⟨_, _, retOut X hx hr rfl (Or.inr (Or.inl ⟨rfl, rfl, _, rfl⟩)) (hb hby hd) hl, h1, h2, _, _, rfl, ⟨hQ, hz', N⟩, ⟨_, rfl⟩, h3, h4.mono hk hn⟩
theorem o_retA {t : FieldType} {z : Value} (W : OW p l e R s m args below meth c Z B ml own nm rt n0 z0 T h kk nn) (hrt : rt = some t) (ht : t.isReference = true) (hv : z.isRef = true) (hnz : narrow t z = z) (hd : decode B pc = .ok (.areturn, 1)) (hk : kk ≤ kc) (hn : nn ≤ ns) (hQ : Q (some z) h) :
    OF p e below n0 z0 (ENn s kc ns) Q T (mkF m pc L (z :: S)) := by
  obtain ⟨⟨hx, hZ, hby, hml, hown, hnm, hr, hlk⟩, hz, hz', rfl, locs, X, N⟩ := W
  subst hrt
  obtain ⟨fs, hl, h1, h2, h3, h4⟩ := X.leave (v := some z) (fun q => by rw [hr] at q; cases q) hlk
  exact ⟨_, _, retOut X hx hr hnz (Or.inr (Or.inr (Or.inr (Or.inr ⟨rfl, ht, hv⟩)))) (hb hby hd) hl, h1, h2, _, _, rfl, ⟨hQ, hz', N⟩, ⟨_, rfl⟩, h3, h4.mono hk hn⟩
theorem o_retV (W : OW p l e R s m args below meth c Z B ml own nm rt n0 z0 T h kk nn) (hrt : rt = none) (hd : decode B pc = .ok (.return_, 1)) (hk : kk ≤ kc) (hn : nn ≤ ns) (hQ : Q none h) :
    OF p e below n0 z0 (ENn s kc ns) Q T (mkF m pc L []) := by
  obtain ⟨⟨hx, hZ, hby, hml, hown, hnm, hr, hlk⟩, hz, hz', rfl, locs, X, N⟩ := W
  subst hrt
  obtain ⟨fs, hl, h1, h2, h3, h4⟩ := X.leave (v := none) (fun _ => rfl) hlk
  exact ⟨_, _, X.returnOut hx hr (hb hby hd) hl, h1, h2, _, _, rfl, ⟨hQ, hz', N⟩, ⟨_, rfl⟩, h3, h4.mono hk hn⟩
/-- a body's contract: called with 'as' at the heap h0 it returns what Q says -/
def OCon (l : Launch) (Z : State) (y : MethodName) (B : ByteArray) (ml : Nat) (rt : Option FieldType) (ws : List Jvm.Cond) (rm : Room) (as : Array Value) (h0 : Heap) (n0 : Nat) (Q : Option Value → Heap → Prop) : Prop :=
  MetFree l y (head1 (Jvm.Cond.code y B ml rt :: ws) rm) (fun a U => a = as ∧ Z.Warmed39 U.vm ∧ U.heap = h0) (fun _ _ _ _ _ => True)
    (fun _ U o U' => ∃ v L, o = .returned v ∧ OQ Q h0.size n0 v U'.heap L ∧ FrameEnd U o U' L rm.cells rm.slots)
theorem OCon.mk {y : MethodName} {ws : List Jvm.Cond} {rm : Room} {as : Array Value} {h0 : Heap} (hpl : plainFor y = true) (hz : n0 ≤ h0.size)
    (body : ∀ (p : Program) (e : Env) (s : State) (m : MethodId) (below : List Frame) (meth : Method) (c : Code) (s₁ : State), OW p l e rm s m as below meth c Z B ml y.cls y.name rt n0 h0.size s₁ h0 0 0 → OF p e below n0 h0.size (ENn s rm.cells rm.slots) Q s₁ (entryFrame m as ml)) :
    OCon l Z y B ml rt ws rm as h0 n0 Q := by
  refine MetFree.of_bodySF hpl hisR ?_
  intro p e s m args below meth c s₁ Bd hml0 hP hK
  obtain ⟨rfl, hZ, hh⟩ := hP
  exact body p e s m below meth c s₁ ⟨⟨Bd.exec, hZ, Bd.bytes, hml0, findClass_of_methodNamed Bd.named, (name_of_methodNamed Bd.named Bd.method).1, Bd.returns, Bd.notSynchronized⟩, hz, Nat.le_refl _, by rw [← hh, Bd.state]; rfl, [], Stand.of_body Bd, Fr.nil _⟩
theorem o_callS {index : Nat} {y : MethodName} {B' : ByteArray} {ml' wt : Nat} {rt' : Option FieldType} {rm : Room} {as : Array Value} {Q' : Option Value → Heap → Prop} {argsL : List Value} {st : List Value} (W : OW p l e R s m args below meth c Z B ml own nm rt n0 z0 T h kk nn)
    (C : OCon l Z y B' ml' rt' [] rm as h n0 Q') (w1 : (Jvm.Cond.methodLink own index y).before a0 Z = true) (w2 : (Jvm.Cond.static y).before a0 Z = true) (w3 : (Jvm.Cond.initialized y.cls).before a0 Z = true) (w4 : (Jvm.Cond.code y B' ml' rt').before a0 Z = true)
    (hy : y.cls ≠ "java/lang/invoke/MethodHandle" ∧ y.cls ≠ "java/lang/invoke/VarHandle") (hlen : ∀ sig, parseMethodDescriptor y.desc = some sig → argsL.length = sig.parameters.length) (has : argsL.toArray = as) (hst : st = argsL.reverse ++ S) (hL : L.size = ml)
    (hwt : (S.map fun v => v.category).sum = wt) (hfr : rm.frames + 1 ≤ R.frames) (hlo : wt + (ml' + 11) + rm.locals ≤ R.locals) (hcl : kk + rm.cells ≤ R.cells) (hsl : nn + rm.slots ≤ R.slots) (hk' : kk + rm.cells = kk') (hn' : nn + rm.slots = nn')
    (hd : decode B pc = .ok (.invokestatic index, 3)) (hp : pc + 3 = pc')
    (k1 : ∀ v T' h', OW p l e R s m args below meth c Z B ml own nm rt n0 z0 T' h' kk' nn' → Q' v h' → h.size ≤ h'.size → OF p e below n1 z1 EN Q T' (mkF m pc' L (v.toList ++ S))) : OF p e below n1 z1 EN Q T (mkF m pc L st) := by
  subst hp has hk' hn' hst
  obtain ⟨cx, hz, hz', eT, locs, X, N⟩ := W
  obtain ⟨hx, hZ, hby, hml, hown, hnm, hr, hlk⟩ := cx
  obtain ⟨v, _, ⟨T', L2, k2, n2⟩, -, X2, ⟨Lc, hQ, l2, y2, z2⟩, st2⟩ := Jvm.LawKit.callS X hx (y := y) hown (mvT hZ w1) (mvT hZ w2) (mvT hZ w3) (mvT hZ w4) hy (backOf (W := wt) (Q := OQ Q' h.size n0) C hZ w4 w3 hfr hlo) (g := mkF m pc L (argsL.reverse ++ S)) rfl (hL.trans hml.symm) (argsL := argsL) (rest := S) hlen rfl
    (by show 2 * 0 + _ ≤ _; rw [hwt]; omega) (hb hby hd) (fun _ _ => ⟨rfl, eT, hcl, hsl⟩)
  dsimp only [Pt.U, Pt.locs, Pt.cells, Pt.slots] at X2 l2 y2 z2 st2 hQ
  subst l2 y2 z2
  obtain ⟨q1, q2, q3⟩ := hQ
  exact OF.step (fun t z => st2 t z) (k1 v T' T'.heap ⟨⟨hx, hZ, hby, hml, hown, hnm, hr, hlk⟩, hz, Nat.le_trans hz' q2, rfl, _, X2, Fr.app N q3⟩ q1 q2)
theorem o_callSI {index : Nat} {y : MethodName} {B' : ByteArray} {ml' wt : Nat} {rt' : Option FieldType} {rm : Room} {as : Array Value} {P' : Int32 → Heap → Prop} {argsL : List Value} {st : List Value} (W : OW p l e R s m args below meth c Z B ml own nm rt n0 z0 T h kk nn)
    (C : OCon l Z y B' ml' rt' [] rm as h n0 (QI P')) (w1 : (Jvm.Cond.methodLink own index y).before a0 Z = true) (w2 : (Jvm.Cond.static y).before a0 Z = true) (w3 : (Jvm.Cond.initialized y.cls).before a0 Z = true) (w4 : (Jvm.Cond.code y B' ml' rt').before a0 Z = true)
    (hy : y.cls ≠ "java/lang/invoke/MethodHandle" ∧ y.cls ≠ "java/lang/invoke/VarHandle") (hlen : ∀ sig, parseMethodDescriptor y.desc = some sig → argsL.length = sig.parameters.length) (has : argsL.toArray = as) (hst : st = argsL.reverse ++ S) (hL : L.size = ml)
    (hwt : (S.map fun v => v.category).sum = wt) (hfr : rm.frames + 1 ≤ R.frames) (hlo : wt + (ml' + 11) + rm.locals ≤ R.locals) (hcl : kk + rm.cells ≤ R.cells) (hsl : nn + rm.slots ≤ R.slots) (hk' : kk + rm.cells = kk') (hn' : nn + rm.slots = nn')
    (hd : decode B pc = .ok (.invokestatic index, 3)) (hp : pc + 3 = pc')
    (k1 : ∀ r T' h', OW p l e R s m args below meth c Z B ml own nm rt n0 z0 T' h' kk' nn' → P' r h' → h.size ≤ h'.size → OF p e below n1 z1 EN Q T' (mkF m pc' L (.int r :: S))) : OF p e below n1 z1 EN Q T (mkF m pc L st) :=
  o_callS W C w1 w2 w3 w4 hy hlen has hst hL hwt hfr hlo hcl hsl hk' hn' hd hp (fun v T' h' W' q z => by
    obtain ⟨r, rfl, q⟩ := q
    exact k1 r T' h' W' q z)
theorem o_callSJ {index : Nat} {y : MethodName} {B' : ByteArray} {ml' wt : Nat} {rt' : Option FieldType} {rm : Room} {as : Array Value} {P' : Int64 → Heap → Prop} {argsL : List Value} {st : List Value} (W : OW p l e R s m args below meth c Z B ml own nm rt n0 z0 T h kk nn)
    (C : OCon l Z y B' ml' rt' [] rm as h n0 (QJ P')) (w1 : (Jvm.Cond.methodLink own index y).before a0 Z = true) (w2 : (Jvm.Cond.static y).before a0 Z = true) (w3 : (Jvm.Cond.initialized y.cls).before a0 Z = true) (w4 : (Jvm.Cond.code y B' ml' rt').before a0 Z = true)
    (hy : y.cls ≠ "java/lang/invoke/MethodHandle" ∧ y.cls ≠ "java/lang/invoke/VarHandle") (hlen : ∀ sig, parseMethodDescriptor y.desc = some sig → argsL.length = sig.parameters.length) (has : argsL.toArray = as) (hst : st = argsL.reverse ++ S) (hL : L.size = ml)
    (hwt : (S.map fun v => v.category).sum = wt) (hfr : rm.frames + 1 ≤ R.frames) (hlo : wt + (ml' + 11) + rm.locals ≤ R.locals) (hcl : kk + rm.cells ≤ R.cells) (hsl : nn + rm.slots ≤ R.slots) (hk' : kk + rm.cells = kk') (hn' : nn + rm.slots = nn')
    (hd : decode B pc = .ok (.invokestatic index, 3)) (hp : pc + 3 = pc')
    (k1 : ∀ r T' h', OW p l e R s m args below meth c Z B ml own nm rt n0 z0 T' h' kk' nn' → P' r h' → h.size ≤ h'.size → OF p e below n1 z1 EN Q T' (mkF m pc' L (.long r :: S))) : OF p e below n1 z1 EN Q T (mkF m pc L st) :=
  o_callS W C w1 w2 w3 w4 hy hlen has hst hL hwt hfr hlo hcl hsl hk' hn' hd hp (fun v T' h' W' q z => by
    obtain ⟨r, rfl, q⟩ := q
    exact k1 r T' h' W' q z)
theorem o_callSA {index : Nat} {y : MethodName} {B' : ByteArray} {ml' wt : Nat} {rt' : Option FieldType} {rm : Room} {as : Array Value} {P' : Addr → Heap → Prop} {argsL : List Value} {st : List Value} (W : OW p l e R s m args below meth c Z B ml own nm rt n0 z0 T h kk nn)
    (C : OCon l Z y B' ml' rt' [] rm as h n0 (QA P')) (w1 : (Jvm.Cond.methodLink own index y).before a0 Z = true) (w2 : (Jvm.Cond.static y).before a0 Z = true) (w3 : (Jvm.Cond.initialized y.cls).before a0 Z = true) (w4 : (Jvm.Cond.code y B' ml' rt').before a0 Z = true)
    (hy : y.cls ≠ "java/lang/invoke/MethodHandle" ∧ y.cls ≠ "java/lang/invoke/VarHandle") (hlen : ∀ sig, parseMethodDescriptor y.desc = some sig → argsL.length = sig.parameters.length) (has : argsL.toArray = as) (hst : st = argsL.reverse ++ S) (hL : L.size = ml)
    (hwt : (S.map fun v => v.category).sum = wt) (hfr : rm.frames + 1 ≤ R.frames) (hlo : wt + (ml' + 11) + rm.locals ≤ R.locals) (hcl : kk + rm.cells ≤ R.cells) (hsl : nn + rm.slots ≤ R.slots) (hk' : kk + rm.cells = kk') (hn' : nn + rm.slots = nn')
    (hd : decode B pc = .ok (.invokestatic index, 3)) (hp : pc + 3 = pc')
    (k1 : ∀ r T' h', OW p l e R s m args below meth c Z B ml own nm rt n0 z0 T' h' kk' nn' → P' r h' → h.size ≤ h'.size → OF p e below n1 z1 EN Q T' (mkF m pc' L (.ref r :: S))) : OF p e below n1 z1 EN Q T (mkF m pc L st) :=
  o_callS W C w1 w2 w3 w4 hy hlen has hst hL hwt hfr hlo hcl hsl hk' hn' hd hp (fun v T' h' W' q z => by
    obtain ⟨r, rfl, q⟩ := q
    exact k1 r T' h' W' q z)
/-- an array of ints, bytes or chars at a, with these components -/
def OA (Z : State) (h : Heap) (a : Addr) (ty : FieldType) (xs : List Int32) : Prop := xs.length < 2 ^ 31 ∧ (∀ x ∈ xs, fits ty (.int x) = true) ∧ ∃ cl : Cell, Arr Z h a cl ty ∧ cl.slots = (xs.map Value.int).toArray
theorem OA.lt {a : Addr} {ty : FieldType} {xs : List Int32} (A : OA Z h a ty xs) : a < h.size := by obtain ⟨_, _, _, A, _⟩ := A; exact A.lt
theorem OA.ext {a : Addr} {ty : FieldType} {xs : List Int32} (A : OA Z h a ty xs) (E : Ext h h') : OA Z h' a ty xs := by obtain ⟨q1, q2, cl, A, q3⟩ := A; exact ⟨q1, q2, cl, A.ext E, q3⟩
theorem OA.keep {a : Addr} {ty : FieldType} {xs : List Int32} {ws : List Addr} (A : OA Z h a ty xs) (K : Keep h h' ws) (q : a ∉ ws) : OA Z h' a ty xs := by obtain ⟨q1, q2, cl, A, q3⟩ := A; exact ⟨q1, q2, cl, ⟨K.2.1 a cl A.1 q, A.2⟩, q3⟩
theorem OA.keep1 {a b : Addr} {ty : FieldType} {xs : List Int32} (A : OA Z h a ty xs) (K : Keep h h' [b]) (q : a ≠ b) : OA Z h' a ty xs := A.keep K (by simpa using q)
theorem OA.len {a : Addr} {ty : FieldType} {xs : List Int32} (A : OA Z h a ty xs) : xs.length < 2 ^ 31 := A.1
theorem o_tn (x : Int32) : x.toNatClampNeg = x.toInt.toNat := rfl
theorem o_nat {j : Int32} {i : Nat} (q : j.toInt = i) : j.toNatClampNeg = i := by rw [o_tn, q]; exact Int.toNat_natCast i
theorem o_in {j : Int32} {i : Nat} {xs : List Int32} {cl : Cell} (hi : j.toInt = i) (hs : cl.slots = (xs.map Value.int).toArray) (q : i < xs.length) : ¬ (j < 0 ∨ cl.slots.size ≤ j.toNatClampNeg) := by
  rw [o_nat hi, hs]; simp only [List.size_toArray, List.length_map, Int32.lt_iff_toInt_lt, hi, o_zero]; omega
theorem o_newarray {aty : ArrayType} {ty : FieldType} {v : Int32} {len cap : Nat} (W : OW p l e R s m args below meth c Z B ml own nm rt n0 z0 T h kk nn) (w : (Jvm.Cond.arrayClass ty).before a0 Z = true) (hty : newarray.typeOf aty = ty) (hdv : defaultValue ty = .int 0) (hft : fits ty (.int 0) = true) (hd : decode B pc = .ok (.newarray aty, 2)) (hp : pc + 2 = pc')
    (hv : v.toInt = len) (hlc : len ≤ cap) (hcap : cap * 8 ≤ 536870912) (hc : kk + 1 ≤ R.cells) (hl : nn + cap ≤ R.slots) (hk' : kk + 1 = kk') (hn' : nn + cap = nn')
    (k1 : ∀ T' h' a, OW p l e R s m args below meth c Z B ml own nm rt n0 z0 T' h' kk' nn' → Ext h h' → a = h.size → OA Z h' a ty (List.replicate len 0) → OF p e below n1 z1 EN Q T' (mkF m pc' L (.ref a :: S))) : OF p e below n1 z1 EN Q T (mkF m pc L (.int v :: S)) := by
  subst hp hk' hn' hty
  obtain ⟨cx, hz, hz', eT, locs, X, N⟩ := W
  obtain ⟨hx, hZ, hby, hml, hown, hnm, hr, hlk⟩ := cx
  obtain ⟨T', h', cA, X', e', E, A, st⟩ := newP X hx hZ w eT (g := mkF m pc L (.int v :: S)) rfl (hb hby hd) rfl (o_nlt (by rw [hv, o_zero]; omega)) (cap := cap) (by rw [o_nat hv]; exact hlc) hcap hc hl
  refine OF.step (fun t z => st t z) (k1 T' h' h.size ⟨⟨hx, hZ, hby, hml, hown, hnm, hr, hlk⟩, hz, Nat.le_trans hz' E.1, e', _, X', N⟩ E rfl ⟨by rw [List.length_replicate]; omega, fun x hx => by rw [List.mem_replicate] at hx; rw [hx.2]; exact hft, _, A, ?_⟩)
  simp [newA, hdv, o_nat hv]
theorem o_iaload {a : Addr} {xs : List Int32} {j v : Int32} {i : Nat} (W : OW p l e R s m args below meth c Z B ml own nm rt n0 z0 T h kk nn) (A : OA Z h a .int xs) (hd : decode B pc = .ok (.iaload, 1)) (hp : pc + 1 = pc') (hi : j.toInt = i) (hv : xs[i]? = some v)
    (k1 : OF p e below n1 z1 EN Q T (mkF m pc' L (.int v :: S))) : OF p e below n1 z1 EN Q T (mkF m pc L (.int j :: .ref a :: S)) := by
  subst hp
  obtain ⟨cx, hz, hz', eT, locs, X, N⟩ := W
  obtain ⟨hx, hZ, hby, hml, hown, hnm, hr, hlk⟩ := cx
  obtain ⟨q1, q2, cl, A, q3⟩ := A
  have hlt : i < xs.length := (List.getElem?_eq_some_iff.mp hv).1
  exact OF.step (fun t z => X.iaload hx (j := j) (v := .int v) (by rw [eT]; exact A.1) (State.isArrayOf_alike hZ.alike A.2.1) A.2.2 (o_in hi q3 hlt) (by rw [o_nat hi, q3]; simp [hv]) (g := mkF m pc L (.int j :: .ref a :: S)) rfl rfl (hb hby hd) t z) k1
theorem o_baload {a : Addr} {xs : List Int32} {j v : Int32} {i : Nat} (W : OW p l e R s m args below meth c Z B ml own nm rt n0 z0 T h kk nn) (A : OA Z h a .byte xs) (hd : decode B pc = .ok (.baload, 1)) (hp : pc + 1 = pc') (hi : j.toInt = i) (hv : xs[i]? = some v)
    (k1 : OF p e below n1 z1 EN Q T (mkF m pc' L (.int v :: S))) : OF p e below n1 z1 EN Q T (mkF m pc L (.int j :: .ref a :: S)) := by
  subst hp
  obtain ⟨cx, hz, hz', eT, locs, X, N⟩ := W
  obtain ⟨hx, hZ, hby, hml, hown, hnm, hr, hlk⟩ := cx
  obtain ⟨q1, q2, cl, A, q3⟩ := A
  have hlt : i < xs.length := (List.getElem?_eq_some_iff.mp hv).1
  exact OF.step (fun t z => X.baloadBytes hx (j := j) (v := .int v) (by rw [eT]; exact A.1) (State.isArrayOf_alike hZ.alike A.2.1) A.2.2 (o_in hi q3 hlt) (by rw [o_nat hi, q3]; simp [hv]) (g := mkF m pc L (.int j :: .ref a :: S)) rfl rfl (hb hby hd) t z) k1
theorem o_caload {a : Addr} {xs : List Int32} {j v : Int32} {i : Nat} (W : OW p l e R s m args below meth c Z B ml own nm rt n0 z0 T h kk nn) (A : OA Z h a .char xs) (hd : decode B pc = .ok (.caload, 1)) (hp : pc + 1 = pc') (hi : j.toInt = i) (hv : xs[i]? = some v)
    (k1 : OF p e below n1 z1 EN Q T (mkF m pc' L (.int v :: S))) : OF p e below n1 z1 EN Q T (mkF m pc L (.int j :: .ref a :: S)) := by
  subst hp
  obtain ⟨cx, hz, hz', eT, locs, X, N⟩ := W
  obtain ⟨hx, hZ, hby, hml, hown, hnm, hr, hlk⟩ := cx
  obtain ⟨q1, q2, cl, A, q3⟩ := A
  have hlt : i < xs.length := (List.getElem?_eq_some_iff.mp hv).1
  exact OF.step (fun t z => X.caload hx (j := j) (v := .int v) (by rw [eT]; exact A.1) (State.isArrayOf_alike hZ.alike A.2.1) A.2.2 (o_in hi q3 hlt) (by rw [o_nat hi, q3]; simp [hv]) (g := mkF m pc L (.int j :: .ref a :: S)) rfl rfl (hb hby hd) t z) k1
theorem o_iastore {a : Addr} {xs : List Int32} {j x : Int32} {i : Nat} (W : OW p l e R s m args below meth c Z B ml own nm rt n0 z0 T h kk nn) (A : OA Z h a .int xs) (ha : n0 ≤ a) (hd : decode B pc = .ok (.iastore, 1)) (hp : pc + 1 = pc') (hi : j.toInt = i) (hlt : i < xs.length)
    (k1 : ∀ T' h', OW p l e R s m args below meth c Z B ml own nm rt n0 z0 T' h' kk nn → Keep h h' [a] → OA Z h' a .int (xs.set i (x)) → OF p e below n1 z1 EN Q T' (mkF m pc' L S)) : OF p e below n1 z1 EN Q T (mkF m pc L (.int x :: .int j :: .ref a :: S)) := by
  subst hp
  obtain ⟨cx, hz, hz', eT, locs, X, N⟩ := W
  obtain ⟨hx, hZ, hby, hml, hown, hnm, hr, hlk⟩ := cx
  obtain ⟨q1, q2, cl, A, q3⟩ := A
  obtain ⟨T', h', X', e', Wr', st⟩ := stI X hx hZ eT A (j := j) (x := x) (o_in hi q3 hlt) (g := mkF m pc L (.int x :: .int j :: .ref a :: S)) rfl rfl (hb hby hd)
  have Wr' : Wr h h' a j.toNatClampNeg (.int (x)) := Wr'
  refine OF.step (fun t z => st t z) (k1 T' h' ⟨⟨hx, hZ, hby, hml, hown, hnm, hr, hlk⟩, hz, Nat.le_trans hz' (Nat.le_of_eq Wr'.size.symm), e', _, X', Fr.snoc X' N ha⟩ (Keep.of_wr Wr') ⟨by rw [List.length_set]; exact q1, fun y hy => ?_, _, A.same Wr', ?_⟩)
  · rcases List.mem_or_eq_of_mem_set hy with hy | rfl
    · exact q2 y hy
    · exact rfl
  · rw [o_nat hi]; simp [Cell.setSlot, q3, List.map_set]; try rfl
theorem o_bastore {a : Addr} {xs : List Int32} {j x : Int32} {i : Nat} (W : OW p l e R s m args below meth c Z B ml own nm rt n0 z0 T h kk nn) (A : OA Z h a .byte xs) (ha : n0 ≤ a) (hd : decode B pc = .ok (.bastore, 1)) (hp : pc + 1 = pc') (hi : j.toInt = i) (hlt : i < xs.length)
    (k1 : ∀ T' h', OW p l e R s m args below meth c Z B ml own nm rt n0 z0 T' h' kk nn → Keep h h' [a] → OA Z h' a .byte (xs.set i (x.toInt8.toInt32)) → OF p e below n1 z1 EN Q T' (mkF m pc' L S)) : OF p e below n1 z1 EN Q T (mkF m pc L (.int x :: .int j :: .ref a :: S)) := by
  subst hp
  obtain ⟨cx, hz, hz', eT, locs, X, N⟩ := W
  obtain ⟨hx, hZ, hby, hml, hown, hnm, hr, hlk⟩ := cx
  obtain ⟨q1, q2, cl, A, q3⟩ := A
  obtain ⟨T', h', X', e', Wr', st⟩ := stB X hx hZ eT A (j := j) (x := x) (o_in hi q3 hlt) (g := mkF m pc L (.int x :: .int j :: .ref a :: S)) rfl rfl (hb hby hd)
  have Wr' : Wr h h' a j.toNatClampNeg (.int (x.toInt8.toInt32)) := Wr'
  refine OF.step (fun t z => st t z) (k1 T' h' ⟨⟨hx, hZ, hby, hml, hown, hnm, hr, hlk⟩, hz, Nat.le_trans hz' (Nat.le_of_eq Wr'.size.symm), e', _, X', Fr.snoc X' N ha⟩ (Keep.of_wr Wr') ⟨by rw [List.length_set]; exact q1, fun y hy => ?_, _, A.same Wr', ?_⟩)
  · rcases List.mem_or_eq_of_mem_set hy with hy | rfl
    · exact q2 y hy
    · exact fits_nar_byte x
  · rw [o_nat hi]; simp [Cell.setSlot, q3, List.map_set]; try rfl
theorem o_castore {a : Addr} {xs : List Int32} {j x : Int32} {i : Nat} (W : OW p l e R s m args below meth c Z B ml own nm rt n0 z0 T h kk nn) (A : OA Z h a .char xs) (ha : n0 ≤ a) (hd : decode B pc = .ok (.castore, 1)) (hp : pc + 1 = pc') (hi : j.toInt = i) (hlt : i < xs.length)
    (k1 : ∀ T' h', OW p l e R s m args below meth c Z B ml own nm rt n0 z0 T' h' kk nn → Keep h h' [a] → OA Z h' a .char (xs.set i (x.toUInt32.toUInt16.toUInt32.toInt32)) → OF p e below n1 z1 EN Q T' (mkF m pc' L S)) : OF p e below n1 z1 EN Q T (mkF m pc L (.int x :: .int j :: .ref a :: S)) := by
  subst hp
  obtain ⟨cx, hz, hz', eT, locs, X, N⟩ := W
  obtain ⟨hx, hZ, hby, hml, hown, hnm, hr, hlk⟩ := cx
  obtain ⟨q1, q2, cl, A, q3⟩ := A
  obtain ⟨T', h', X', e', Wr', st⟩ := stC X hx hZ eT A (j := j) (x := x) (o_in hi q3 hlt) (g := mkF m pc L (.int x :: .int j :: .ref a :: S)) rfl rfl (hb hby hd)
  have Wr' : Wr h h' a j.toNatClampNeg (.int (x.toUInt32.toUInt16.toUInt32.toInt32)) := Wr'
  refine OF.step (fun t z => st t z) (k1 T' h' ⟨⟨hx, hZ, hby, hml, hown, hnm, hr, hlk⟩, hz, Nat.le_trans hz' (Nat.le_of_eq Wr'.size.symm), e', _, X', Fr.snoc X' N ha⟩ (Keep.of_wr Wr') ⟨by rw [List.length_set]; exact q1, fun y hy => ?_, _, A.same Wr', ?_⟩)
  · rcases List.mem_or_eq_of_mem_set hy with hy | rfl
    · exact q2 y hy
    · exact fits_nar_char x
  · rw [o_nat hi]; simp [Cell.setSlot, q3, List.map_set]; try rfl
theorem o_arraylength {a : Addr} {ty : FieldType} {xs : List Int32} (W : OW p l e R s m args below meth c Z B ml own nm rt n0 z0 T h kk nn) (A : OA Z h a ty xs) (hd : decode B pc = .ok (.arraylength, 1)) (hp : pc + 1 = pc')
    (k1 : ∀ v : Int32, v.toInt = xs.length → OF p e below n1 z1 EN Q T (mkF m pc' L (.int v :: S))) : OF p e below n1 z1 EN Q T (mkF m pc L (.ref a :: S)) := by
  subst hp
  obtain ⟨cx, hz, hz', eT, locs, X, N⟩ := W
  obtain ⟨hx, hZ, hby, hml, hown, hnm, hr, hlk⟩ := cx
  obtain ⟨q1, q2, cl, A, q3⟩ := A
  have hs : cl.slots.size = xs.length := by rw [q3]; simp
  exact OF.step (fun t z => X.arraylength hx (by rw [eT]; exact A.1) (State.isArrayOf_alike hZ.alike A.2.1) (g := mkF m pc L (.ref a :: S)) rfl rfl (hb hby hd) t z) (k1 cl.slots.size.toInt32 (by rw [hs]; exact len_toInt q1))
theorem OF.join {α : Type} (Jn : α → Prop) (Tf : α → State) (fr : α → JFrame) {f : JFrame} (k1 : ∀ v, Jn v → OF p e below n1 z1 EN Q (Tf v) (fr v)) (k2 : (∀ v, Jn v → OF p e below n1 z1 EN Q (Tf v) (fr v)) → OF p e below n1 z1 EN Q T f) : OF p e below n1 z1 EN Q T f := k2 k1
theorem OF.loop {α : Type} (mu : α → Nat) (Jn : α → Prop) (Tf : α → State) (fr : α → JFrame) (k1 : ∀ v, Jn v → (∀ v', Jn v' → mu v' < mu v → OF p e below n1 z1 EN Q (Tf v') (fr v')) → OF p e below n1 z1 EN Q (Tf v) (fr v)) (v0 : α) (hv0 : Jn v0) : OF p e below n1 z1 EN Q (Tf v0) (fr v0) := by
  have key : ∀ n v, mu v < n → Jn v → OF p e below n1 z1 EN Q (Tf v) (fr v) := by
    intro n
    induction n with
    | zero => intro v hn; omega
    | succ n ih => intro v hn hv; exact k1 v hv (fun v' hv' hlt => ih v' (by omega) hv')
  exact key _ v0 (Nat.lt_succ_self _) hv0
theorem o_new {index n : Nat} {C : String} (W : OW p l e R s m args below meth c Z B ml own nm rt n0 z0 T h kk nn) (w : (Jvm.Cond.classLink own index C).before a0 Z = true) (wi : (Jvm.Cond.instantiable C n).before a0 Z = true) (wz : (Jvm.Cond.initialized C).before a0 Z = true) (hd : decode B pc = .ok (.new index, 3)) (hp : pc + 3 = pc')
    (hc : kk + 1 ≤ R.cells) (hl : nn + n ≤ R.slots) (hk' : kk + 1 = kk') (hn' : nn + n = nn')
    (k1 : ∀ T' h' a, OW p l e R s m args below meth c Z B ml own nm rt n0 z0 T' h' kk' nn' → Ext h h' → a = h.size → Exa Z h' a C → (∀ {O nm d : String} {ty : FieldType}, Laid Z a0 C O nm d → parseFieldDescriptor d = some ty → Fld Z h' a O nm d (defaultValue ty)) → OF p e below n1 z1 EN Q T' (mkF m pc' L (.ref a :: S))) : OF p e below n1 z1 EN Q T (mkF m pc L S) := by
  subst hp hk' hn'
  obtain ⟨cx, hz, hz', eT, locs, X, N⟩ := W
  obtain ⟨hx, hZ, hby, hml, hown, hnm, hr, hlk⟩ := cx
  obtain ⟨T', h', X', e', E, A, D, -, st⟩ := newO X hx hZ hown w wi wz eT (g := mkF m pc L S) rfl (hb hby hd) hc hl
  exact OF.step (fun t z => st t z) (k1 T' h' h.size ⟨⟨hx, hZ, hby, hml, hown, hnm, hr, hlk⟩, hz, Nat.le_trans hz' E.1, e', _, X', N⟩ E rfl A D)
theorem o_getF {index : Nat} {O f d : String} {a : Addr} {v : Value} (W : OW p l e R s m args below meth c Z B ml own nm rt n0 z0 T h kk nn) (w : (Jvm.Cond.fieldLink own index O f d).before a0 Z = true) (Fl : Fld Z h a O f d v) (hd : decode B pc = .ok (.getfield index, 3)) (hp : pc + 3 = pc')
    (k1 : ∀ T', OW p l e R s m args below meth c Z B ml own nm rt n0 z0 T' h kk nn → OF p e below n1 z1 EN Q T' (mkF m pc' L (v :: S))) : OF p e below n1 z1 EN Q T (mkF m pc L (.ref a :: S)) := by
  subst hp
  obtain ⟨cx, hz, hz', eT, locs, X, N⟩ := W
  obtain ⟨hx, hZ, hby, hml, hown, hnm, hr, hlk⟩ := cx
  obtain ⟨T', X', e', st⟩ := getF X hx hZ hown (host := "") (Or.inl w) Via.refl eT Fl (g := mkF m pc L (.ref a :: S)) rfl rfl (hb hby hd)
  exact OF.step (fun t z => st t z) (k1 T' ⟨⟨hx, hZ, hby, hml, hown, hnm, hr, hlk⟩, hz, hz', e', _, X', N⟩)
theorem o_putF {index kz : Nat} {O f d C : String} {a : Addr} {v v' old : Value} {ty : FieldType} (W : OW p l e R s m args below meth c Z B ml own nm rt n0 z0 T h kk nn) (w : (Jvm.Cond.fieldLink own index O f d).before a0 Z = true) (Fl : Fld Z h a O f d old) (E : Exa Z h a C) (Ly : (Jvm.Cond.lays C O f d).before a0 Z = true ∨ ((Jvm.Cond.laysFinal C O f d).before a0 Z = true ∧ own = O ∧ nm = "<init>")) (wi : (Jvm.Cond.instantiable C kz).before a0 Z = true)
    (hty : parseFieldDescriptor d = some ty) (hnw : narrow ty v = v') (hf : fits ty v' = true) (ha : n0 ≤ a) (hd : decode B pc = .ok (.putfield index, 3)) (hp : pc + 3 = pc')
    (k1 : ∀ T' h', OW p l e R s m args below meth c Z B ml own nm rt n0 z0 T' h' kk nn → Wr h h' a (Jvm.RoadKit.slotOf Z O f d) v' → OF p e below n1 z1 EN Q T' (mkF m pc' L S)) : OF p e below n1 z1 EN Q T (mkF m pc L (v :: .ref a :: S)) := by
  subst hp
  obtain ⟨cx, hz, hz', eT, locs, X, N⟩ := W
  obtain ⟨hx, hZ, hby, hml, hown, hnm, hr, hlk⟩ := cx
  obtain ⟨T', h', X', e', Wr', st⟩ := putFN X hx hZ hown w Via.refl eT Fl E (Ly.imp id (fun q => ⟨q.1, q.2.1, hnm.trans q.2.2⟩)) wi hty hnw hf (g := mkF m pc L (v :: .ref a :: S)) rfl rfl (hb hby hd)
  exact OF.step (fun t z => st t z) (k1 T' h' ⟨⟨hx, hZ, hby, hml, hown, hnm, hr, hlk⟩, hz, Nat.le_trans hz' (Nat.le_of_eq Wr'.size.symm), e', _, X', Fr.snoc X' N ha⟩ Wr')
theorem o_initO {index wt : Nat} {a : Addr} (W : OW p l e R s m args below meth c Z B ml own nm rt n0 z0 T h kk nn) (w1 : (Jvm.Cond.methodLink own index Lib.objectInit).before a0 Z = true) (w2 : (Jvm.Cond.instanceMethod Lib.objectInit).before a0 Z = true) (w3 : (Jvm.Cond.code Lib.objectInit ⟨#[0xb1]⟩ 1 none).before a0 Z = true)
    (hL : L.size = ml) (hwt : (S.map fun v => v.category).sum = wt) (hfr : 1 ≤ R.frames) (hlo : wt + 12 ≤ R.locals) (hd : decode B pc = .ok (.invokespecial index, 3)) (hp : pc + 3 = pc')
    (k1 : ∀ T', OW p l e R s m args below meth c Z B ml own nm rt n0 z0 T' h kk nn → OF p e below n1 z1 EN Q T' (mkF m pc' L S)) : OF p e below n1 z1 EN Q T (mkF m pc L (.ref a :: S)) := by
  subst hp
  obtain ⟨cx, hz, hz', eT, locs, X, N⟩ := W
  obtain ⟨hx, hZ, hby, hml, hown, hnm, hr, hlk⟩ := cx
  obtain ⟨T', X', e', st⟩ := initO X hx hZ hown w1 w2 w3 eT (g := mkF m pc L (.ref a :: S)) rfl (hL.trans hml.symm) rfl (hb hby hd) hfr (W := wt) (by show 2 * 0 + _ ≤ _; rw [hwt]; omega) hlo
  exact OF.step (fun t z => st t z) (k1 T' ⟨⟨hx, hZ, hby, hml, hown, hnm, hr, hlk⟩, hz, hz', e', _, X', N⟩)
theorem o_callC {index : Nat} {y : MethodName} {B' : ByteArray} {ml' wt : Nat} {rm : Room} {as : Array Value} {P' : Heap → Prop} {a : Addr} {argsL : List Value} {st : List Value} (W : OW p l e R s m args below meth c Z B ml own nm rt n0 z0 T h kk nn)
    (C : OCon l Z y B' ml' none [] rm as h n0 (QV P')) (hy1 : y.name = "<init>") (w1 : (Jvm.Cond.methodLink own index y).before a0 Z = true) (w2 : (Jvm.Cond.instanceMethod y).before a0 Z = true) (w3 : (Jvm.Cond.initialized y.cls).before a0 Z = true) (w4 : (Jvm.Cond.code y B' ml' none).before a0 Z = true)
    (hy : y.cls ≠ "java/lang/invoke/MethodHandle" ∧ y.cls ≠ "java/lang/invoke/VarHandle") (hlen : ∀ sig, parseMethodDescriptor y.desc = some sig → argsL.length = sig.parameters.length) (has : (.ref a :: argsL).toArray = as) (hst : st = argsL.reverse ++ .ref a :: S) (hL : L.size = ml)
    (hwt : (S.map fun v => v.category).sum = wt) (hfr : rm.frames + 1 ≤ R.frames) (hlo : wt + (ml' + 11) + rm.locals ≤ R.locals) (hcl : kk + rm.cells ≤ R.cells) (hsl : nn + rm.slots ≤ R.slots) (hk' : kk + rm.cells = kk') (hn' : nn + rm.slots = nn')
    (hd : decode B pc = .ok (.invokespecial index, 3)) (hp : pc + 3 = pc')
    (k1 : ∀ T' h', OW p l e R s m args below meth c Z B ml own nm rt n0 z0 T' h' kk' nn' → P' h' → h.size ≤ h'.size → OF p e below n1 z1 EN Q T' (mkF m pc' L S)) : OF p e below n1 z1 EN Q T (mkF m pc L st) := by
  subst hp has hk' hn' hst
  obtain ⟨cx, hz, hz', eT, locs, X, N⟩ := W
  obtain ⟨hx, hZ, hby, hml, hown, hnm, hr, hlk⟩ := cx
  obtain ⟨v, _, ⟨T', L2, k2, n2⟩, -, X2, ⟨Lc, hQ, l2, y2, z2⟩, st2⟩ := X.specialBack hx (y := y) hy1 hown (mvT hZ w1) (mvT hZ w2) (mvT hZ w4) hy (backOf (W := wt) (Q := OQ (QV P') h.size n0) C hZ w4 w3 hfr hlo) (g := mkF m pc L (argsL.reverse ++ .ref a :: S)) rfl (hL.trans hml.symm) (Steps.refl _) (a := a) (argsL := argsL) (rest := S) hlen rfl
    (by show 2 * 0 + _ ≤ _; rw [hwt]; omega) (hb hby hd) (fun _ _ => ⟨rfl, eT, hcl, hsl⟩)
  dsimp only [Pt.U, Pt.locs, Pt.cells, Pt.slots] at X2 l2 y2 z2 st2 hQ
  subst l2 y2 z2
  obtain ⟨⟨rfl, q1⟩, q2, q3⟩ := hQ
  exact OF.step (fun t z => st2.trans z) (k1 T' T'.heap ⟨⟨hx, hZ, hby, hml, hown, hnm, hr, hlk⟩, hz, Nat.le_trans hz' q2, rfl, _, X2, Fr.app N q3⟩ q1 q2)
theorem o_callV {index : Nat} {y z : MethodName} {K : String} {B' : ByteArray} {ml' wt : Nat} {rt' : Option FieldType} {rm : Room} {as : Array Value} {Q' : Option Value → Heap → Prop} {a : Addr} {argsL : List Value} {st : List Value} (W : OW p l e R s m args below meth c Z B ml own nm rt n0 z0 T h kk nn)
    (E : Exa Z h a K) (C : OCon l Z z B' ml' rt' [] rm as h n0 Q') (w1 : (Jvm.Cond.methodLink own index y).before a0 Z = true) (w2 : (Jvm.Cond.declares y).before a0 Z = true) (w5 : NotFace s y) (w6 : (Jvm.Cond.selects K y z).before a0 Z = true) (w7 : (Jvm.Cond.instanceMethod z).before a0 Z = true) (w3 : (Jvm.Cond.initialized z.cls).before a0 Z = true) (w4 : (Jvm.Cond.code z B' ml' rt').before a0 Z = true)
    (hy : y.cls ≠ "java/lang/invoke/MethodHandle" ∧ y.cls ≠ "java/lang/invoke/VarHandle") (hlen : ∀ sig, parseMethodDescriptor y.desc = some sig → argsL.length = sig.parameters.length) (has : (.ref a :: argsL).toArray = as) (hst : st = argsL.reverse ++ .ref a :: S) (hL : L.size = ml)
    (hwt : (S.map fun v => v.category).sum = wt) (hfr : rm.frames + 1 ≤ R.frames) (hlo : wt + (ml' + 11) + rm.locals ≤ R.locals) (hcl : kk + rm.cells ≤ R.cells) (hsl : nn + rm.slots ≤ R.slots) (hk' : kk + rm.cells = kk') (hn' : nn + rm.slots = nn')
    (hd : decode B pc = .ok (.invokevirtual index, 3)) (hp : pc + 3 = pc')
    (k1 : ∀ v T' h', OW p l e R s m args below meth c Z B ml own nm rt n0 z0 T' h' kk' nn' → Q' v h' → h.size ≤ h'.size → OF p e below n1 z1 EN Q T' (mkF m pc' L (v.toList ++ S))) : OF p e below n1 z1 EN Q T (mkF m pc L st) := by
  subst hp has hk' hn' hst
  obtain ⟨cx, hz, hz', eT, locs, X, N⟩ := W
  obtain ⟨hx, hZ, hby, hml, hown, hnm, hr, hlk⟩ := cx
  obtain ⟨cq, kq, qa, qb, qc⟩ := isOf hZ eT E
  obtain ⟨v, _, ⟨T', L2, k2, n2⟩, -, X2, ⟨Lc, hQ, l2, y2, z2⟩, st2⟩ := X.virtualBack hx (y := y) (z := z) hown (mvT hZ w1) (mvT hZ w2) w5 (mvT hZ w6) (mvT hZ w7) hy (backOf (W := wt) (Q := OQ Q' h.size n0) C hZ w4 w3 hfr hlo) qa qc (g := mkF m pc L (argsL.reverse ++ .ref a :: S)) rfl (hL.trans hml.symm) (Steps.refl _) (argsL := argsL) (rest := S) hlen rfl
    (by show 2 * 0 + _ ≤ _; rw [hwt]; omega) (hb hby hd) (fun _ _ => ⟨rfl, eT, hcl, hsl⟩)
  dsimp only [Pt.U, Pt.locs, Pt.cells, Pt.slots] at X2 l2 y2 z2 st2 hQ
  subst l2 y2 z2
  obtain ⟨q1, q2, q3⟩ := hQ
  exact OF.step (fun t z => st2.trans z) (k1 v T' T'.heap ⟨⟨hx, hZ, hby, hml, hown, hnm, hr, hlk⟩, hz, Nat.le_trans hz' q2, rfl, _, X2, Fr.app N q3⟩ q1 q2)
end OwnKit
theorem ow {a0 : Array Value} {Z : State} (hw : ∀ d ∈ tables_1, d.before a0 Z = true) (k : Nat) {d : Jvm.Cond} (h : tables_1[k]? = some d) : d.before a0 Z = true := hw _ (List.mem_of_getElem? h)
theorem own_rng (x : Int32) : -2147483648 ≤ x.toInt ∧ x.toInt < 2147483648 := ⟨x.le_toInt, x.toInt_lt⟩
theorem own_lrng (x : Int64) : -9223372036854775808 ≤ x.toInt ∧ x.toInt < 9223372036854775808 := ⟨x.le_toInt, x.toInt_lt⟩
theorem own_rem (x y : Int32) : (x - (x / y) * y).toInt = x.toInt.tmod y.toInt := by
  have a := (x % y).toInt_lt; have b := (x % y).le_toInt
  rw [Int32.toInt_mod] at a b
  rw [Int32.toInt_sub, Int32.toInt_mul, Int32.toInt_div, Int.bmod_mul_bmod, Int.sub_bmod_bmod, Int.mul_comm, ← Int.tmod_def]
  exact Jvm.Kit.bmod32 b a
theorem own_remp {x y : Int32} (hx : 0 ≤ x.toInt) : (x - (x / y) * y).toInt = x.toInt % y.toInt := by rw [own_rem, Int.tmod_eq_emod_of_nonneg hx]
theorem own_char (x : Int32) : 0 ≤ (x.toUInt32.toUInt16.toUInt32.toInt32).toInt ∧ (x.toUInt32.toUInt16.toUInt32.toInt32).toInt ≤ 65535 := by
  have q := fits_nar_char x
  simp only [fits, nar, Bool.and_eq_true, decide_eq_true_eq, Int32.le_iff_toInt_le] at q
  exact q
theorem own_ix {x y : Int32} {n : Nat} (hx : 0 ≤ x.toInt) (hy : y.toInt = n) (hn : 0 < n) : ∃ i : Nat, (x - x / y * y).toInt = i ∧ i < n := by
  have h := own_remp (y := y) hx
  rw [hy] at h
  have h1 := Int.emod_nonneg x.toInt (b := (n : Int)) (by omega)
  have h2 := Int.emod_lt_of_pos x.toInt (b := (n : Int)) (by omega)
  exact ⟨(x.toInt % n).toNat, by omega, by omega⟩
theorem own_nz {v : Int32} {n : Nat} (h : v.toInt = n) (hn : 0 < n) : v ≠ 0 := fun e => by
  rw [e] at h; have c0 : (0 : Int32).toInt = 0 := rfl; omega
theorem own_and31 (x : Int32) : 0 ≤ (x &&& 2147483647).toInt := by
  have h1 : (x &&& 2147483647).toInt = x.toInt % 2147483648 := Jvm.Kit.i32_mask x 2147483647 (k := 31) (by decide) (by decide)
  omega
theorem own_ushr (x : Int32) {n : UInt32} {k : Nat} (hn : n.toNat = k) (h0 : 0 < k) (hk : k < 32) : ((x.toUInt32 >>> n).toInt32).toInt = ((x.toUInt32.toNat / 2 ^ k : Nat) : Int) := by
  have e : ((x.toUInt32 >>> n).toInt32).toInt = ((x.toUInt32 >>> n).toBitVec).toInt := rfl
  have q : (x.toUInt32 >>> n).toBitVec.toNat = x.toUInt32.toNat / 2 ^ k := by
    show (x.toUInt32 >>> n).toNat = _
    rw [UInt32.toNat_shiftRight, hn, Nat.mod_eq_of_lt hk, Nat.shiftRight_eq_div_pow]
  have lt := x.toUInt32.toNat_lt
  have p1 : 2 ^ 1 ≤ 2 ^ k := Nat.pow_le_pow_right (by decide) h0
  have p2 : x.toUInt32.toNat / 2 ^ k ≤ x.toUInt32.toNat / 2 ^ 1 := Nat.div_le_div_left p1 (by decide)
  rw [e, BitVec.toInt_eq_toNat_cond, q, if_pos (by omega)]
theorem own_ushr1 (x : Int32) : 0 ≤ ((x.toUInt32 >>> ((1 : Int32) &&& 31).toUInt32).toInt32).toInt := by
  rw [own_ushr x (k := 1) (by decide) (by decide) (by decide)]; omega
theorem own_nn {v : Int32} (h : 0 ≤ v.toInt) : v.toBitVec.toNat = v.toInt.toNat := by
  have q : v.toInt = v.toBitVec.toInt := rfl
  rw [BitVec.toInt_eq_toNat_cond] at q
  have := v.toBitVec.isLt
  split at q <;> omega
theorem own_lnn {v : Int64} (h : 0 ≤ v.toInt) : v.toBitVec.toNat = v.toInt.toNat := by
  have q : v.toInt = v.toBitVec.toInt := rfl
  rw [BitVec.toInt_eq_toNat_cond] at q
  have := v.toBitVec.isLt
  split at q <;> omega
theorem own_bits (x : Int32) : (x &&& 30).toInt = 0 ↔ ((x &&& 2).toInt = 0 ∧ (x &&& 4).toInt = 0 ∧ (x &&& 8).toInt = 0 ∧ (x &&& 16).toInt = 0) := by
  have key : ∀ k : Fin 32, ((Int32.ofNat k.val) &&& 30).toInt = 0 ↔ (((Int32.ofNat k.val) &&& 2).toInt = 0 ∧ ((Int32.ofNat k.val) &&& 4).toInt = 0 ∧ ((Int32.ofNat k.val) &&& 8).toInt = 0 ∧ ((Int32.ofNat k.val) &&& 16).toInt = 0) := by decide +kernel
  have h1 : (x &&& 31).toInt = x.toInt % 32 := Jvm.Kit.i32_mask x 31 (k := 5) (by decide) (by decide)
  have e : x &&& 31 = Int32.ofNat (x &&& 31).toInt.toNat := by
    apply Int32.toInt_inj.mp
    rw [Int32.toInt_ofNat_of_lt (by omega)]; omega
  have q := key ⟨(x &&& 31).toInt.toNat, by omega⟩
  have q : ((Int32.ofNat (x &&& 31).toInt.toNat) &&& 30).toInt = 0 ↔ (((Int32.ofNat (x &&& 31).toInt.toNat) &&& 2).toInt = 0 ∧ ((Int32.ofNat (x &&& 31).toInt.toNat) &&& 4).toInt = 0 ∧ ((Int32.ofNat (x &&& 31).toInt.toNat) &&& 8).toInt = 0 ∧ ((Int32.ofNat (x &&& 31).toInt.toNat) &&& 16).toInt = 0) := q
  rw [← e] at q
  have a30 : (x &&& 31) &&& 30 = x &&& 30 := by rw [Int32.and_assoc]; rfl
  have a2 : (x &&& 31) &&& 2 = x &&& 2 := by rw [Int32.and_assoc]; rfl
  have a4 : (x &&& 31) &&& 4 = x &&& 4 := by rw [Int32.and_assoc]; rfl
  have a8 : (x &&& 31) &&& 8 = x &&& 8 := by rw [Int32.and_assoc]; rfl
  have a16 : (x &&& 31) &&& 16 = x &&& 16 := by rw [Int32.and_assoc]; rfl
  rw [a30, a2, a4, a8, a16] at q
  exact q
theorem own_pn0 : plainName "java/lang/Record" = true := by first | (simp [plainName, overriddenIn]; done) | decide +kernel
theorem own_ef2 (m : MethodId) (z0 : Addr) : entryFrame m #[(.ref z0)] 1 = mkF m 0 #[.val (.ref z0)] [] := by first | (simp [entryFrame, mkF, argsToLocals, Value.category]; done) | rfl
theorem own_d2_0 : decode jdk_30_method_1_code 0 = .ok (.aload_n 0, 1) := by decide +kernel
theorem own_d2_1 : decode jdk_30_method_1_code 1 = .ok (.invokespecial 1, 3) := by decide +kernel
theorem own_d2_4 : decode jdk_30_method_1_code 4 = .ok (.return_, 1) := by decide +kernel
set_option maxRecDepth 65536 in
set_option maxHeartbeats 4000000 in
theorem rm2 (l : Launch) (Z : State) (a0 : Array Value) (hw : ∀ d ∈ tables_1, d.before a0 Z = true) (b0 : Addr) (h0 : Heap) (n0 : Nat) (Z0 : n0 ≤ h0.size) :
    OCon l Z (⟨"java/lang/Record", "<init>", "()V"⟩ : MethodName) jdk_30_method_1_code 1 none [] ({ frames := 1, cells := 0, slots := 0, locals := 12 } : Room) #[(.ref b0)] h0 n0 (QV fun h' => h0 = h') := by
  refine OCon.mk (plainFor_of_name own_pn0) Z0 ?_
  intro p e s m below meth cd s₁ W0
  refine OF.cast (own_ef2 m b0) ?_
  refine o_aloadN W0 own_d2_0 (v := (.ref b0)) rfl rfl (pc' := 1) rfl ?_
  refine o_initO W0 (ow hw 11 rfl) (ow hw 12 rfl) (ow hw 13 rfl) rfl (wt := 0) rfl (by decide) (by decide) own_d2_1 (pc' := 4) rfl ?_
  intro T1 W1
  refine o_retV W1 rfl own_d2_4 (by decide) (by decide) ?_
  exact ⟨rfl, rfl⟩
theorem own_pn1 : plainName "com/example/girobulk/girobulk/sdd/Amendment" = true := by first | (simp [plainName, overriddenIn]; done) | decide +kernel
theorem own_ef1 (m : MethodId) (z0 : Addr) (z1 : Int32) (z2 : Int32) (z3 : Int32) (z4 : Int32) (z5 : Int32) (z6 : Int32) : entryFrame m #[(.ref z0), (.int z1), (.int z2), (.int z3), (.int z4), (.int z5), (.int z6)] 7 = mkF m 0 #[.val (.ref z0), .val (.int z1), .val (.int z2), .val (.int z3), .val (.int z4), .val (.int z5), .val (.int z6)] [] := by first | (simp [entryFrame, mkF, argsToLocals, Value.category]; done) | rfl
theorem own_d1_0 : decode prog_88_method_1_code 0 = .ok (.aload_n 0, 1) := by decide +kernel
theorem own_d1_1 : decode prog_88_method_1_code 1 = .ok (.invokespecial 1, 3) := by decide +kernel
theorem own_pd0 : parseMethodDescriptor "()V" = some ⟨[], none⟩ := by decide +kernel
theorem own_d1_4 : decode prog_88_method_1_code 4 = .ok (.aload_n 0, 1) := by decide +kernel
theorem own_d1_5 : decode prog_88_method_1_code 5 = .ok (.iload_n 1, 1) := by decide +kernel
theorem own_d1_6 : decode prog_88_method_1_code 6 = .ok (.putfield 7, 3) := by decide +kernel
theorem own_d1_9 : decode prog_88_method_1_code 9 = .ok (.aload_n 0, 1) := by decide +kernel
theorem own_d1_10 : decode prog_88_method_1_code 10 = .ok (.iload_n 2, 1) := by decide +kernel
theorem own_d1_11 : decode prog_88_method_1_code 11 = .ok (.putfield 13, 3) := by decide +kernel
theorem own_d1_14 : decode prog_88_method_1_code 14 = .ok (.aload_n 0, 1) := by decide +kernel
theorem own_d1_15 : decode prog_88_method_1_code 15 = .ok (.iload_n 3, 1) := by decide +kernel
theorem own_d1_16 : decode prog_88_method_1_code 16 = .ok (.putfield 16, 3) := by decide +kernel
theorem own_d1_19 : decode prog_88_method_1_code 19 = .ok (.aload_n 0, 1) := by decide +kernel
theorem own_d1_20 : decode prog_88_method_1_code 20 = .ok (.iload 4, 2) := by decide +kernel
theorem own_d1_22 : decode prog_88_method_1_code 22 = .ok (.putfield 19, 3) := by decide +kernel
theorem own_d1_25 : decode prog_88_method_1_code 25 = .ok (.aload_n 0, 1) := by decide +kernel
theorem own_d1_26 : decode prog_88_method_1_code 26 = .ok (.iload 5, 2) := by decide +kernel
theorem own_d1_28 : decode prog_88_method_1_code 28 = .ok (.putfield 22, 3) := by decide +kernel
theorem own_d1_31 : decode prog_88_method_1_code 31 = .ok (.aload_n 0, 1) := by decide +kernel
theorem own_d1_32 : decode prog_88_method_1_code 32 = .ok (.iload 6, 2) := by decide +kernel
theorem own_d1_34 : decode prog_88_method_1_code 34 = .ok (.putfield 25, 3) := by decide +kernel
theorem own_d1_37 : decode prog_88_method_1_code 37 = .ok (.return_, 1) := by decide +kernel
set_option maxRecDepth 65536 in
set_option maxHeartbeats 4000000 in
theorem rm1 (l : Launch) (Z : State) (a0 : Array Value) (hw : ∀ d ∈ tables_1, d.before a0 Z = true) (b0 : Addr) (y0 : Int32) (y1 : Int32) (y2 : Int32) (y3 : Int32) (y4 : Int32) (y5 : Int32) (h0 : Heap) (n0 : Nat) (Z0 : n0 ≤ h0.size) (E0 : Exa Z h0 b0 "com/example/girobulk/girobulk/sdd/Amendment") (F0 : Fld Z h0 b0 "com/example/girobulk/girobulk/sdd/Amendment" "indicated" "Z" (.int (0 : Int32))) (F1 : Fld Z h0 b0 "com/example/girobulk/girobulk/sdd/Amendment" "originalMandateId" "Z" (.int (0 : Int32))) (F2 : Fld Z h0 b0 "com/example/girobulk/girobulk/sdd/Amendment" "originalCreditorSchemeId" "Z" (.int (0 : Int32))) (F3 : Fld Z h0 b0 "com/example/girobulk/girobulk/sdd/Amendment" "originalDebtorAccount" "Z" (.int (0 : Int32))) (F4 : Fld Z h0 b0 "com/example/girobulk/girobulk/sdd/Amendment" "originalDebtorAgent" "Z" (.int (0 : Int32))) (F5 : Fld Z h0 b0 "com/example/girobulk/girobulk/sdd/Amendment" "sameMandateNewDebtorAccount" "Z" (.int (0 : Int32))) (g0 : n0 ≤ b0) :
    OCon l Z (⟨"com/example/girobulk/girobulk/sdd/Amendment", "<init>", "(ZZZZZZ)V"⟩ : MethodName) prog_88_method_1_code 7 none [] ({ frames := 2, cells := 0, slots := 0, locals := 24 } : Room) #[(.ref b0), (.int y0), (.int y1), (.int y2), (.int y3), (.int y4), (.int y5)] h0 n0 (QV fun h' => Exa Z h' b0 "com/example/girobulk/girobulk/sdd/Amendment" ∧ Fld Z h' b0 "com/example/girobulk/girobulk/sdd/Amendment" "indicated" "Z" (.int (nar .boolean y0)) ∧ Fld Z h' b0 "com/example/girobulk/girobulk/sdd/Amendment" "originalMandateId" "Z" (.int (nar .boolean y1)) ∧ Fld Z h' b0 "com/example/girobulk/girobulk/sdd/Amendment" "originalCreditorSchemeId" "Z" (.int (nar .boolean y2)) ∧ Fld Z h' b0 "com/example/girobulk/girobulk/sdd/Amendment" "originalDebtorAccount" "Z" (.int (nar .boolean y3)) ∧ Fld Z h' b0 "com/example/girobulk/girobulk/sdd/Amendment" "originalDebtorAgent" "Z" (.int (nar .boolean y4)) ∧ Fld Z h' b0 "com/example/girobulk/girobulk/sdd/Amendment" "sameMandateNewDebtorAccount" "Z" (.int (nar .boolean y5))) := by
  refine OCon.mk (plainFor_of_name own_pn1) Z0 ?_
  intro p e s m below meth cd s₁ W0
  refine OF.cast (own_ef1 m b0 y0 y1 y2 y3 y4 y5) ?_
  refine o_aloadN W0 own_d1_0 (v := (.ref b0)) rfl rfl (pc' := 1) rfl ?_
  refine o_callC W0 (rm2 l Z a0 hw b0 h0 n0 W0.le) rfl (ow hw 6 rfl) (ow hw 7 rfl) (ow hw 9 rfl) (ow hw 10 rfl) (by decide) (argsL := []) (S := []) (lenOf own_pd0 rfl) rfl rfl rfl (wt := 0) rfl (by decide) (by decide) (by decide) (by decide) (kk' := 0) rfl (nn' := 0) rfl own_d1_1 (pc' := 4) rfl ?_
  intro T2 h2 W2 q2 z2
  obtain rfl := q2
  refine o_aloadN W2 own_d1_4 (v := (.ref b0)) rfl rfl (pc' := 5) rfl ?_
  refine o_iloadN W2 own_d1_5 (v := y0) rfl (pc' := 6) rfl ?_
  refine o_putF W2 (ow hw 14 rfl) F0 E0 (Or.inr ⟨(ow hw 15 rfl), rfl, rfl⟩) (ow hw 1 rfl) (ty := .boolean) (by decide) (v' := (.int (nar .boolean y0))) rfl (fits_nar_bool _) g0 own_d1_6 (pc' := 9) rfl ?_
  intro T3 h3 W3 R3
  have F_indicated_b0_3 := F0.same R3
  have F_originalMandateId_b0_3 := Fld.other R3 F1 (Or.inr (slot_ne (Or.inr (ow hw 17 rfl)) (Or.inr (ow hw 15 rfl)) (by decide) (t := .boolean) (t' := .boolean) (by decide) (by decide)))
  have F_originalCreditorSchemeId_b0_3 := Fld.other R3 F2 (Or.inr (slot_ne (Or.inr (ow hw 19 rfl)) (Or.inr (ow hw 15 rfl)) (by decide) (t := .boolean) (t' := .boolean) (by decide) (by decide)))
  have F_originalDebtorAccount_b0_3 := Fld.other R3 F3 (Or.inr (slot_ne (Or.inr (ow hw 21 rfl)) (Or.inr (ow hw 15 rfl)) (by decide) (t := .boolean) (t' := .boolean) (by decide) (by decide)))
  have F_originalDebtorAgent_b0_3 := Fld.other R3 F4 (Or.inr (slot_ne (Or.inr (ow hw 23 rfl)) (Or.inr (ow hw 15 rfl)) (by decide) (t := .boolean) (t' := .boolean) (by decide) (by decide)))
  have F_sameMandateNewDebtorAccount_b0_3 := Fld.other R3 F5 (Or.inr (slot_ne (Or.inr (ow hw 25 rfl)) (Or.inr (ow hw 15 rfl)) (by decide) (t := .boolean) (t' := .boolean) (by decide) (by decide)))
  have X_b0_3 := Exa.wr R3 E0
  refine o_aloadN W3 own_d1_9 (v := (.ref b0)) rfl rfl (pc' := 10) rfl ?_
  refine o_iloadN W3 own_d1_10 (v := y1) rfl (pc' := 11) rfl ?_
  refine o_putF W3 (ow hw 16 rfl) F_originalMandateId_b0_3 X_b0_3 (Or.inr ⟨(ow hw 17 rfl), rfl, rfl⟩) (ow hw 1 rfl) (ty := .boolean) (by decide) (v' := (.int (nar .boolean y1))) rfl (fits_nar_bool _) g0 own_d1_11 (pc' := 14) rfl ?_
  intro T4 h4 W4 R4
  have F_indicated_b0_4 := Fld.other R4 F_indicated_b0_3 (Or.inr (slot_ne (Or.inr (ow hw 15 rfl)) (Or.inr (ow hw 17 rfl)) (by decide) (t := .boolean) (t' := .boolean) (by decide) (by decide)))
  have F_originalMandateId_b0_4 := F_originalMandateId_b0_3.same R4
  have F_originalCreditorSchemeId_b0_4 := Fld.other R4 F_originalCreditorSchemeId_b0_3 (Or.inr (slot_ne (Or.inr (ow hw 19 rfl)) (Or.inr (ow hw 17 rfl)) (by decide) (t := .boolean) (t' := .boolean) (by decide) (by decide)))
  have F_originalDebtorAccount_b0_4 := Fld.other R4 F_originalDebtorAccount_b0_3 (Or.inr (slot_ne (Or.inr (ow hw 21 rfl)) (Or.inr (ow hw 17 rfl)) (by decide) (t := .boolean) (t' := .boolean) (by decide) (by decide)))
  have F_originalDebtorAgent_b0_4 := Fld.other R4 F_originalDebtorAgent_b0_3 (Or.inr (slot_ne (Or.inr (ow hw 23 rfl)) (Or.inr (ow hw 17 rfl)) (by decide) (t := .boolean) (t' := .boolean) (by decide) (by decide)))
  have F_sameMandateNewDebtorAccount_b0_4 := Fld.other R4 F_sameMandateNewDebtorAccount_b0_3 (Or.inr (slot_ne (Or.inr (ow hw 25 rfl)) (Or.inr (ow hw 17 rfl)) (by decide) (t := .boolean) (t' := .boolean) (by decide) (by decide)))
  have X_b0_4 := Exa.wr R4 X_b0_3
  refine o_aloadN W4 own_d1_14 (v := (.ref b0)) rfl rfl (pc' := 15) rfl ?_
  refine o_iloadN W4 own_d1_15 (v := y2) rfl (pc' := 16) rfl ?_
  refine o_putF W4 (ow hw 18 rfl) F_originalCreditorSchemeId_b0_4 X_b0_4 (Or.inr ⟨(ow hw 19 rfl), rfl, rfl⟩) (ow hw 1 rfl) (ty := .boolean) (by decide) (v' := (.int (nar .boolean y2))) rfl (fits_nar_bool _) g0 own_d1_16 (pc' := 19) rfl ?_
  intro T5 h5 W5 R5
  have F_indicated_b0_5 := Fld.other R5 F_indicated_b0_4 (Or.inr (slot_ne (Or.inr (ow hw 15 rfl)) (Or.inr (ow hw 19 rfl)) (by decide) (t := .boolean) (t' := .boolean) (by decide) (by decide)))
  have F_originalMandateId_b0_5 := Fld.other R5 F_originalMandateId_b0_4 (Or.inr (slot_ne (Or.inr (ow hw 17 rfl)) (Or.inr (ow hw 19 rfl)) (by decide) (t := .boolean) (t' := .boolean) (by decide) (by decide)))
  have F_originalCreditorSchemeId_b0_5 := F_originalCreditorSchemeId_b0_4.same R5
  have F_originalDebtorAccount_b0_5 := Fld.other R5 F_originalDebtorAccount_b0_4 (Or.inr (slot_ne (Or.inr (ow hw 21 rfl)) (Or.inr (ow hw 19 rfl)) (by decide) (t := .boolean) (t' := .boolean) (by decide) (by decide)))
  have F_originalDebtorAgent_b0_5 := Fld.other R5 F_originalDebtorAgent_b0_4 (Or.inr (slot_ne (Or.inr (ow hw 23 rfl)) (Or.inr (ow hw 19 rfl)) (by decide) (t := .boolean) (t' := .boolean) (by decide) (by decide)))
  have F_sameMandateNewDebtorAccount_b0_5 := Fld.other R5 F_sameMandateNewDebtorAccount_b0_4 (Or.inr (slot_ne (Or.inr (ow hw 25 rfl)) (Or.inr (ow hw 19 rfl)) (by decide) (t := .boolean) (t' := .boolean) (by decide) (by decide)))
  have X_b0_5 := Exa.wr R5 X_b0_4
  refine o_aloadN W5 own_d1_19 (v := (.ref b0)) rfl rfl (pc' := 20) rfl ?_
  refine o_iload W5 own_d1_20 (v := y3) rfl (pc' := 22) rfl ?_
  refine o_putF W5 (ow hw 20 rfl) F_originalDebtorAccount_b0_5 X_b0_5 (Or.inr ⟨(ow hw 21 rfl), rfl, rfl⟩) (ow hw 1 rfl) (ty := .boolean) (by decide) (v' := (.int (nar .boolean y3))) rfl (fits_nar_bool _) g0 own_d1_22 (pc' := 25) rfl ?_
  intro T6 h6 W6 R6
  have F_indicated_b0_6 := Fld.other R6 F_indicated_b0_5 (Or.inr (slot_ne (Or.inr (ow hw 15 rfl)) (Or.inr (ow hw 21 rfl)) (by decide) (t := .boolean) (t' := .boolean) (by decide) (by decide)))
  have F_originalMandateId_b0_6 := Fld.other R6 F_originalMandateId_b0_5 (Or.inr (slot_ne (Or.inr (ow hw 17 rfl)) (Or.inr (ow hw 21 rfl)) (by decide) (t := .boolean) (t' := .boolean) (by decide) (by decide)))
  have F_originalCreditorSchemeId_b0_6 := Fld.other R6 F_originalCreditorSchemeId_b0_5 (Or.inr (slot_ne (Or.inr (ow hw 19 rfl)) (Or.inr (ow hw 21 rfl)) (by decide) (t := .boolean) (t' := .boolean) (by decide) (by decide)))
  have F_originalDebtorAccount_b0_6 := F_originalDebtorAccount_b0_5.same R6
  have F_originalDebtorAgent_b0_6 := Fld.other R6 F_originalDebtorAgent_b0_5 (Or.inr (slot_ne (Or.inr (ow hw 23 rfl)) (Or.inr (ow hw 21 rfl)) (by decide) (t := .boolean) (t' := .boolean) (by decide) (by decide)))
  have F_sameMandateNewDebtorAccount_b0_6 := Fld.other R6 F_sameMandateNewDebtorAccount_b0_5 (Or.inr (slot_ne (Or.inr (ow hw 25 rfl)) (Or.inr (ow hw 21 rfl)) (by decide) (t := .boolean) (t' := .boolean) (by decide) (by decide)))
  have X_b0_6 := Exa.wr R6 X_b0_5
  refine o_aloadN W6 own_d1_25 (v := (.ref b0)) rfl rfl (pc' := 26) rfl ?_
  refine o_iload W6 own_d1_26 (v := y4) rfl (pc' := 28) rfl ?_
  refine o_putF W6 (ow hw 22 rfl) F_originalDebtorAgent_b0_6 X_b0_6 (Or.inr ⟨(ow hw 23 rfl), rfl, rfl⟩) (ow hw 1 rfl) (ty := .boolean) (by decide) (v' := (.int (nar .boolean y4))) rfl (fits_nar_bool _) g0 own_d1_28 (pc' := 31) rfl ?_
  intro T7 h7 W7 R7
  have F_indicated_b0_7 := Fld.other R7 F_indicated_b0_6 (Or.inr (slot_ne (Or.inr (ow hw 15 rfl)) (Or.inr (ow hw 23 rfl)) (by decide) (t := .boolean) (t' := .boolean) (by decide) (by decide)))
  have F_originalMandateId_b0_7 := Fld.other R7 F_originalMandateId_b0_6 (Or.inr (slot_ne (Or.inr (ow hw 17 rfl)) (Or.inr (ow hw 23 rfl)) (by decide) (t := .boolean) (t' := .boolean) (by decide) (by decide)))
  have F_originalCreditorSchemeId_b0_7 := Fld.other R7 F_originalCreditorSchemeId_b0_6 (Or.inr (slot_ne (Or.inr (ow hw 19 rfl)) (Or.inr (ow hw 23 rfl)) (by decide) (t := .boolean) (t' := .boolean) (by decide) (by decide)))
  have F_originalDebtorAccount_b0_7 := Fld.other R7 F_originalDebtorAccount_b0_6 (Or.inr (slot_ne (Or.inr (ow hw 21 rfl)) (Or.inr (ow hw 23 rfl)) (by decide) (t := .boolean) (t' := .boolean) (by decide) (by decide)))
  have F_originalDebtorAgent_b0_7 := F_originalDebtorAgent_b0_6.same R7
  have F_sameMandateNewDebtorAccount_b0_7 := Fld.other R7 F_sameMandateNewDebtorAccount_b0_6 (Or.inr (slot_ne (Or.inr (ow hw 25 rfl)) (Or.inr (ow hw 23 rfl)) (by decide) (t := .boolean) (t' := .boolean) (by decide) (by decide)))
  have X_b0_7 := Exa.wr R7 X_b0_6
  refine o_aloadN W7 own_d1_31 (v := (.ref b0)) rfl rfl (pc' := 32) rfl ?_
  refine o_iload W7 own_d1_32 (v := y5) rfl (pc' := 34) rfl ?_
  refine o_putF W7 (ow hw 24 rfl) F_sameMandateNewDebtorAccount_b0_7 X_b0_7 (Or.inr ⟨(ow hw 25 rfl), rfl, rfl⟩) (ow hw 1 rfl) (ty := .boolean) (by decide) (v' := (.int (nar .boolean y5))) rfl (fits_nar_bool _) g0 own_d1_34 (pc' := 37) rfl ?_
  intro T8 h8 W8 R8
  have F_indicated_b0_8 := Fld.other R8 F_indicated_b0_7 (Or.inr (slot_ne (Or.inr (ow hw 15 rfl)) (Or.inr (ow hw 25 rfl)) (by decide) (t := .boolean) (t' := .boolean) (by decide) (by decide)))
  have F_originalMandateId_b0_8 := Fld.other R8 F_originalMandateId_b0_7 (Or.inr (slot_ne (Or.inr (ow hw 17 rfl)) (Or.inr (ow hw 25 rfl)) (by decide) (t := .boolean) (t' := .boolean) (by decide) (by decide)))
  have F_originalCreditorSchemeId_b0_8 := Fld.other R8 F_originalCreditorSchemeId_b0_7 (Or.inr (slot_ne (Or.inr (ow hw 19 rfl)) (Or.inr (ow hw 25 rfl)) (by decide) (t := .boolean) (t' := .boolean) (by decide) (by decide)))
  have F_originalDebtorAccount_b0_8 := Fld.other R8 F_originalDebtorAccount_b0_7 (Or.inr (slot_ne (Or.inr (ow hw 21 rfl)) (Or.inr (ow hw 25 rfl)) (by decide) (t := .boolean) (t' := .boolean) (by decide) (by decide)))
  have F_originalDebtorAgent_b0_8 := Fld.other R8 F_originalDebtorAgent_b0_7 (Or.inr (slot_ne (Or.inr (ow hw 23 rfl)) (Or.inr (ow hw 25 rfl)) (by decide) (t := .boolean) (t' := .boolean) (by decide) (by decide)))
  have F_sameMandateNewDebtorAccount_b0_8 := F_sameMandateNewDebtorAccount_b0_7.same R8
  have X_b0_8 := Exa.wr R8 X_b0_7
  refine o_retV W8 rfl own_d1_37 (by decide) (by decide) ?_
  exact ⟨rfl, X_b0_8, F_indicated_b0_8, F_originalMandateId_b0_8, F_originalCreditorSchemeId_b0_8, F_originalDebtorAccount_b0_8, F_originalDebtorAgent_b0_8, F_sameMandateNewDebtorAccount_b0_8⟩
theorem own_ef4 (m : MethodId) (z0 : Addr) : entryFrame m #[(.ref z0)] 1 = mkF m 0 #[.val (.ref z0)] [] := by first | (simp [entryFrame, mkF, argsToLocals, Value.category]; done) | rfl
theorem own_d4_0 : decode prog_88_method_3_code 0 = .ok (.aload_n 0, 1) := by decide +kernel
theorem own_d4_1 : decode prog_88_method_3_code 1 = .ok (.getfield 13, 3) := by decide +kernel
theorem own_d4_4 : decode prog_88_method_3_code 4 = .ok (.ifCond .ne 24, 3) := by decide +kernel
theorem own_d4_28 : decode prog_88_method_3_code 28 = .ok (.iconst 1, 1) := by decide +kernel
theorem own_d4_29 : decode prog_88_method_3_code 29 = .ok (.goto 4, 3) := by decide +kernel
theorem own_d4_33 : decode prog_88_method_3_code 33 = .ok (.ireturn, 1) := by decide +kernel
theorem own_d4_7 : decode prog_88_method_3_code 7 = .ok (.aload_n 0, 1) := by decide +kernel
theorem own_d4_8 : decode prog_88_method_3_code 8 = .ok (.getfield 16, 3) := by decide +kernel
theorem own_d4_11 : decode prog_88_method_3_code 11 = .ok (.ifCond .ne 17, 3) := by decide +kernel
theorem own_d4_14 : decode prog_88_method_3_code 14 = .ok (.aload_n 0, 1) := by decide +kernel
theorem own_d4_15 : decode prog_88_method_3_code 15 = .ok (.getfield 19, 3) := by decide +kernel
theorem own_d4_18 : decode prog_88_method_3_code 18 = .ok (.ifCond .ne 10, 3) := by decide +kernel
theorem own_d4_21 : decode prog_88_method_3_code 21 = .ok (.aload_n 0, 1) := by decide +kernel
theorem own_d4_22 : decode prog_88_method_3_code 22 = .ok (.getfield 22, 3) := by decide +kernel
theorem own_d4_25 : decode prog_88_method_3_code 25 = .ok (.ifCond .eq 7, 3) := by decide +kernel
theorem own_d4_32 : decode prog_88_method_3_code 32 = .ok (.iconst 0, 1) := by decide +kernel
set_option maxRecDepth 65536 in
set_option maxHeartbeats 4000000 in
theorem rm4 (l : Launch) (Z : State) (a0 : Array Value) (hw : ∀ d ∈ tables_1, d.before a0 Z = true) (b0 : Addr) (h0 : Heap) (n0 : Nat) (Z0 : n0 ≤ h0.size) (y1 y2 y3 y4 : Int32) (F1 : Fld Z h0 b0 "com/example/girobulk/girobulk/sdd/Amendment" "originalMandateId" "Z" (.int y1)) (F2 : Fld Z h0 b0 "com/example/girobulk/girobulk/sdd/Amendment" "originalCreditorSchemeId" "Z" (.int y2)) (F3 : Fld Z h0 b0 "com/example/girobulk/girobulk/sdd/Amendment" "originalDebtorAccount" "Z" (.int y3)) (F4 : Fld Z h0 b0 "com/example/girobulk/girobulk/sdd/Amendment" "originalDebtorAgent" "Z" (.int y4)) :
    OCon l Z (⟨"com/example/girobulk/girobulk/sdd/Amendment", "hasDetails", "()Z"⟩ : MethodName) prog_88_method_3_code 1 (some .boolean) [] ({ frames := 0, cells := 0, slots := 0, locals := 0 } : Room) #[(.ref b0)] h0 n0 (QI fun r h' => ((r = 1 ∧ (¬ y1.toInt = 0 ∨ ¬ y2.toInt = 0 ∨ ¬ y3.toInt = 0 ∨ ¬ y4.toInt = 0)) ∨ (r = 0 ∧ ¬ (¬ y1.toInt = 0 ∨ ¬ y2.toInt = 0 ∨ ¬ y3.toInt = 0 ∨ ¬ y4.toInt = 0))) ∧ h0 = h') := by
  refine OCon.mk (plainFor_of_name own_pn1) Z0 ?_
  intro p e s m below meth cd s₁ W0
  refine OF.cast (own_ef4 m b0) ?_
  refine o_aloadN W0 own_d4_0 (v := (.ref b0)) rfl rfl (pc' := 1) rfl ?_
  refine o_getF W0 (ow hw 16 rfl) F1 own_d4_1 (pc' := 4) rfl ?_
  intro T9 W9
  refine o_if_ne W9 own_d4_4 (by decide) (pq := 28) (by decide) (pc' := 7) rfl (fun hc4 => ?_) (fun hc4 => ?_)
  · refine o_iconst W9 (v := (1 : Int32)) own_d4_28 rfl (pc' := 29) rfl ?_
    refine o_goto W9 own_d4_29 (by decide) (pq := 33) (by decide) ?_
    refine o_retN W9 (t := .boolean) rfl (by simp) own_d4_33 (by decide) (by decide) ?_
    exact ⟨(1 : Int32), rfl, Or.inl ⟨rfl, by omega⟩, rfl⟩
  · refine o_aloadN W9 own_d4_7 (v := (.ref b0)) rfl rfl (pc' := 8) rfl ?_
    refine o_getF W9 (ow hw 18 rfl) F2 own_d4_8 (pc' := 11) rfl ?_
    intro T10 W10
    refine o_if_ne W10 own_d4_11 (by decide) (pq := 28) (by decide) (pc' := 14) rfl (fun hc11 => ?_) (fun hc11 => ?_)
    · refine o_iconst W10 (v := (1 : Int32)) own_d4_28 rfl (pc' := 29) rfl ?_
      refine o_goto W10 own_d4_29 (by decide) (pq := 33) (by decide) ?_
      refine o_retN W10 (t := .boolean) rfl (by simp) own_d4_33 (by decide) (by decide) ?_
      exact ⟨(1 : Int32), rfl, Or.inl ⟨rfl, by omega⟩, rfl⟩
    · refine o_aloadN W10 own_d4_14 (v := (.ref b0)) rfl rfl (pc' := 15) rfl ?_
      refine o_getF W10 (ow hw 20 rfl) F3 own_d4_15 (pc' := 18) rfl ?_
      intro T11 W11
      refine o_if_ne W11 own_d4_18 (by decide) (pq := 28) (by decide) (pc' := 21) rfl (fun hc18 => ?_) (fun hc18 => ?_)
      · refine o_iconst W11 (v := (1 : Int32)) own_d4_28 rfl (pc' := 29) rfl ?_
        refine o_goto W11 own_d4_29 (by decide) (pq := 33) (by decide) ?_
        refine o_retN W11 (t := .boolean) rfl (by simp) own_d4_33 (by decide) (by decide) ?_
        exact ⟨(1 : Int32), rfl, Or.inl ⟨rfl, by omega⟩, rfl⟩
      · refine o_aloadN W11 own_d4_21 (v := (.ref b0)) rfl rfl (pc' := 22) rfl ?_
        refine o_getF W11 (ow hw 22 rfl) F4 own_d4_22 (pc' := 25) rfl ?_
        intro T12 W12
        refine o_if_eq W12 own_d4_25 (by decide) (pq := 32) (by decide) (pc' := 28) rfl (fun hc25 => ?_) (fun hc25 => ?_)
        · refine o_iconst W12 (v := (0 : Int32)) own_d4_32 rfl (pc' := 33) rfl ?_
          refine o_retN W12 (t := .boolean) rfl (by simp) own_d4_33 (by decide) (by decide) ?_
          exact ⟨(0 : Int32), rfl, Or.inr ⟨rfl, by omega⟩, rfl⟩
        · refine o_iconst W12 (v := (1 : Int32)) own_d4_28 rfl (pc' := 29) rfl ?_
          refine o_goto W12 own_d4_29 (by decide) (pq := 33) (by decide) ?_
          refine o_retN W12 (t := .boolean) rfl (by simp) own_d4_33 (by decide) (by decide) ?_
          exact ⟨(1 : Int32), rfl, Or.inl ⟨rfl, by omega⟩, rfl⟩
theorem own_pn2 : plainName "com/example/girobulk/girobulk/sdd/AmendmentHasDetailsPinLaw" = true := by first | (simp [plainName, overriddenIn]; done) | decide +kernel
theorem own_ef0 (m : MethodId) (z0 : Int32) : entryFrame m #[(.int z0)] maxLocals = mkF m 0 #[.val (.int z0), .unset, .unset, .unset, .unset, .unset, .unset, .unset, .unset] [] := by first | (simp [entryFrame, mkF, argsToLocals, Value.category, maxLocals]; done) | rfl
theorem own_pd1 : parseMethodDescriptor "(ZZZZZZ)V" = some ⟨[.boolean, .boolean, .boolean, .boolean, .boolean, .boolean], none⟩ := by decide +kernel
theorem own_pd2 : parseMethodDescriptor "()Z" = some ⟨[], some .boolean⟩ := by decide +kernel
set_option maxRecDepth 65536 in
set_option maxHeartbeats 4000000 in
theorem own_law (l : Launch) (Z : State) (a0 : Array Value) (hw : ∀ d ∈ tables_1, d.before a0 Z = true) (x0 : Int32) (h0 : Heap) (n0 : Nat) (Z0 : n0 ≤ h0.size) :
    OCon l Z x code maxLocals ret tables_1 room_1 #[(.int x0)] h0 n0 (fun v _ => v = some (.int 1)) := by
  refine OCon.mk (plainFor_of_name own_pn2) Z0 ?_
  intro p e s m below meth cd s₁ W0
  refine OF.cast (own_ef0 m x0) ?_
  have c_0___Int32_ : (0 : Int32).toInt = 0 := rfl
  have c_1___Int32_ : (1 : Int32).toInt = 1 := rfl
  refine o_iloadN W0 at_0 (v := x0) rfl (pc' := 1) rfl ?_
  refine o_iconst W0 (v := (1 : Int32)) at_1 rfl (pc' := 2) rfl ?_
  refine o_iand W0 at_2 (pc' := 3) rfl ?_
  refine OF.join (fun j13 : Int32 => (j13 = 1 ∧ ¬ (x0 &&& (1 : Int32)).toInt = 0) ∨ (j13 = 0 ∧ (x0 &&& (1 : Int32)).toInt = 0)) (fun _ => s₁) (fun j13 => mkF m 11 #[.val (.int x0), .unset, .unset, .unset, .unset, .unset, .unset, .unset, .unset] [(.int j13)]) (fun j13 hj13 => ?_) (fun k_j13 => ?_)
  · refine o_istoreN W0 (L' := #[.val (.int x0), .val (.int j13), .unset, .unset, .unset, .unset, .unset, .unset, .unset]) at_11 rfl (pc' := 12) rfl ?_
    refine o_iloadN W0 at_12 (v := x0) rfl (pc' := 13) rfl ?_
    refine o_iconst W0 (v := (2 : Int32)) at_13 rfl (pc' := 14) rfl ?_
    refine o_iand W0 at_14 (pc' := 15) rfl ?_
    refine OF.join (fun j14 : Int32 => (j14 = 1 ∧ ¬ (x0 &&& (2 : Int32)).toInt = 0) ∨ (j14 = 0 ∧ (x0 &&& (2 : Int32)).toInt = 0)) (fun _ => s₁) (fun j14 => mkF m 23 #[.val (.int x0), .val (.int j13), .unset, .unset, .unset, .unset, .unset, .unset, .unset] [(.int j14)]) (fun j14 hj14 => ?_) (fun k_j14 => ?_)
    · refine o_istoreN W0 (L' := #[.val (.int x0), .val (.int j13), .val (.int j14), .unset, .unset, .unset, .unset, .unset, .unset]) at_23 rfl (pc' := 24) rfl ?_
      refine o_iloadN W0 at_24 (v := x0) rfl (pc' := 25) rfl ?_
      refine o_iconst W0 (v := (4 : Int32)) at_25 rfl (pc' := 26) rfl ?_
      refine o_iand W0 at_26 (pc' := 27) rfl ?_
      refine OF.join (fun j15 : Int32 => (j15 = 1 ∧ ¬ (x0 &&& (4 : Int32)).toInt = 0) ∨ (j15 = 0 ∧ (x0 &&& (4 : Int32)).toInt = 0)) (fun _ => s₁) (fun j15 => mkF m 35 #[.val (.int x0), .val (.int j13), .val (.int j14), .unset, .unset, .unset, .unset, .unset, .unset] [(.int j15)]) (fun j15 hj15 => ?_) (fun k_j15 => ?_)
      · refine o_istoreN W0 (L' := #[.val (.int x0), .val (.int j13), .val (.int j14), .val (.int j15), .unset, .unset, .unset, .unset, .unset]) at_35 rfl (pc' := 36) rfl ?_
        refine o_iloadN W0 at_36 (v := x0) rfl (pc' := 37) rfl ?_
        refine o_bipush W0 (v := (8 : Int32)) at_37 rfl (pc' := 39) rfl ?_
        refine o_iand W0 at_39 (pc' := 40) rfl ?_
        refine OF.join (fun j16 : Int32 => (j16 = 1 ∧ ¬ (x0 &&& (8 : Int32)).toInt = 0) ∨ (j16 = 0 ∧ (x0 &&& (8 : Int32)).toInt = 0)) (fun _ => s₁) (fun j16 => mkF m 48 #[.val (.int x0), .val (.int j13), .val (.int j14), .val (.int j15), .unset, .unset, .unset, .unset, .unset] [(.int j16)]) (fun j16 hj16 => ?_) (fun k_j16 => ?_)
        · refine o_istore W0 (L' := #[.val (.int x0), .val (.int j13), .val (.int j14), .val (.int j15), .val (.int j16), .unset, .unset, .unset, .unset]) at_48 rfl (pc' := 50) rfl ?_
          refine o_iloadN W0 at_50 (v := x0) rfl (pc' := 51) rfl ?_
          refine o_bipush W0 (v := (16 : Int32)) at_51 rfl (pc' := 53) rfl ?_
          refine o_iand W0 at_53 (pc' := 54) rfl ?_
          refine OF.join (fun j17 : Int32 => (j17 = 1 ∧ ¬ (x0 &&& (16 : Int32)).toInt = 0) ∨ (j17 = 0 ∧ (x0 &&& (16 : Int32)).toInt = 0)) (fun _ => s₁) (fun j17 => mkF m 62 #[.val (.int x0), .val (.int j13), .val (.int j14), .val (.int j15), .val (.int j16), .unset, .unset, .unset, .unset] [(.int j17)]) (fun j17 hj17 => ?_) (fun k_j17 => ?_)
          · refine o_istore W0 (L' := #[.val (.int x0), .val (.int j13), .val (.int j14), .val (.int j15), .val (.int j16), .val (.int j17), .unset, .unset, .unset]) at_62 rfl (pc' := 64) rfl ?_
            refine o_iloadN W0 at_64 (v := x0) rfl (pc' := 65) rfl ?_
            refine o_bipush W0 (v := (32 : Int32)) at_65 rfl (pc' := 67) rfl ?_
            refine o_iand W0 at_67 (pc' := 68) rfl ?_
            refine OF.join (fun j18 : Int32 => (j18 = 1 ∧ ¬ (x0 &&& (32 : Int32)).toInt = 0) ∨ (j18 = 0 ∧ (x0 &&& (32 : Int32)).toInt = 0)) (fun _ => s₁) (fun j18 => mkF m 76 #[.val (.int x0), .val (.int j13), .val (.int j14), .val (.int j15), .val (.int j16), .val (.int j17), .unset, .unset, .unset] [(.int j18)]) (fun j18 hj18 => ?_) (fun k_j18 => ?_)
            · refine o_istore W0 (L' := #[.val (.int x0), .val (.int j13), .val (.int j14), .val (.int j15), .val (.int j16), .val (.int j17), .val (.int j18), .unset, .unset]) at_76 rfl (pc' := 78) rfl ?_
              refine o_new W0 (ow hw 0 rfl) (ow hw 1 rfl) (ow hw 2 rfl) at_78 (pc' := 81) rfl (by decide) (by decide) (kk' := 1) rfl (nn' := 6) rfl ?_
              intro T20 h20 a19 W20 E20 g_a19 X_a19 D_a19
              have b_a19 : n0 ≤ a19 := by rw [g_a19]; exact W0.le
              have F_indicated_a19 : Fld Z h20 a19 "com/example/girobulk/girobulk/sdd/Amendment" "indicated" "Z" (.int (0 : Int32)) := D_a19 (Or.inr (ow hw 15 rfl)) (ty := .boolean) (by decide)
              have F_originalMandateId_a19 : Fld Z h20 a19 "com/example/girobulk/girobulk/sdd/Amendment" "originalMandateId" "Z" (.int (0 : Int32)) := D_a19 (Or.inr (ow hw 17 rfl)) (ty := .boolean) (by decide)
              have F_originalCreditorSchemeId_a19 : Fld Z h20 a19 "com/example/girobulk/girobulk/sdd/Amendment" "originalCreditorSchemeId" "Z" (.int (0 : Int32)) := D_a19 (Or.inr (ow hw 19 rfl)) (ty := .boolean) (by decide)
              have F_originalDebtorAccount_a19 : Fld Z h20 a19 "com/example/girobulk/girobulk/sdd/Amendment" "originalDebtorAccount" "Z" (.int (0 : Int32)) := D_a19 (Or.inr (ow hw 21 rfl)) (ty := .boolean) (by decide)
              have F_originalDebtorAgent_a19 : Fld Z h20 a19 "com/example/girobulk/girobulk/sdd/Amendment" "originalDebtorAgent" "Z" (.int (0 : Int32)) := D_a19 (Or.inr (ow hw 23 rfl)) (ty := .boolean) (by decide)
              have F_sameMandateNewDebtorAccount_a19 : Fld Z h20 a19 "com/example/girobulk/girobulk/sdd/Amendment" "sameMandateNewDebtorAccount" "Z" (.int (0 : Int32)) := D_a19 (Or.inr (ow hw 25 rfl)) (ty := .boolean) (by decide)
              refine o_dup W20 at_81 rfl (pc' := 82) rfl ?_
              refine o_iloadN W20 at_82 (v := j13) rfl (pc' := 83) rfl ?_
              refine o_iloadN W20 at_83 (v := j14) rfl (pc' := 84) rfl ?_
              refine o_iloadN W20 at_84 (v := j15) rfl (pc' := 85) rfl ?_
              refine o_iload W20 at_85 (v := j16) rfl (pc' := 87) rfl ?_
              refine o_iload W20 at_87 (v := j17) rfl (pc' := 89) rfl ?_
              refine o_iload W20 at_89 (v := j18) rfl (pc' := 91) rfl ?_
              refine o_callC W20 (rm1 l Z a0 hw a19 j13 j14 j15 j16 j17 j18 h20 n0 W20.le X_a19 F_indicated_a19 F_originalMandateId_a19 F_originalCreditorSchemeId_a19 F_originalDebtorAccount_a19 F_originalDebtorAgent_a19 F_sameMandateNewDebtorAccount_a19 b_a19) rfl (ow hw 3 rfl) (ow hw 4 rfl) (ow hw 2 rfl) (ow hw 5 rfl) (by decide) (argsL := [(.int j13), (.int j14), (.int j15), (.int j16), (.int j17), (.int j18)]) (S := [(.ref a19)]) (lenOf own_pd1 rfl) rfl rfl rfl (wt := 1) rfl (by decide) (by decide) (by decide) (by decide) (kk' := 1) rfl (nn' := 6) rfl at_91 (pc' := 94) rfl ?_
              intro T21 h21 W21 q21 z21
              obtain ⟨X_a19_21, F_indicated_a19_21, F_originalMandateId_a19_21, F_originalCreditorSchemeId_a19_21, F_originalDebtorAccount_a19_21, F_originalDebtorAgent_a19_21, F_sameMandateNewDebtorAccount_a19_21⟩ := q21
              refine o_astore W21 (L' := #[.val (.int x0), .val (.int j13), .val (.int j14), .val (.int j15), .val (.int j16), .val (.int j17), .val (.int j18), .val (.ref a19), .unset]) at_94 rfl rfl (pc' := 96) rfl ?_
              refine o_iloadN W21 at_96 (v := x0) rfl (pc' := 97) rfl ?_
              refine o_bipush W21 (v := (30 : Int32)) at_97 rfl (pc' := 99) rfl ?_
              refine o_iand W21 at_99 (pc' := 100) rfl ?_
              refine o_if_eq W21 at_100 (by decide) (pq := 107) (by decide) (pc' := 103) rfl (fun hc100 => ?_) (fun hc100 => ?_)
              · refine o_iconst W21 (v := (0 : Int32)) at_107 rfl (pc' := 108) rfl ?_
                refine o_istore W21 (L' := #[.val (.int x0), .val (.int j13), .val (.int j14), .val (.int j15), .val (.int j16), .val (.int j17), .val (.int j18), .val (.ref a19), .val (.int (0 : Int32))]) at_108 rfl (pc' := 110) rfl ?_
                refine o_aload W21 at_110 (v := (.ref a19)) rfl rfl (pc' := 112) rfl ?_
                refine o_callV W21 X_a19_21 (rm4 l Z a0 hw a19 h21 n0 W21.le _ _ _ _ F_originalMandateId_a19_21 F_originalCreditorSchemeId_a19_21 F_originalDebtorAccount_a19_21 F_originalDebtorAgent_a19_21) (ow hw 26 rfl) (ow hw 27 rfl) (notFace_of_selects (args := #[]) (mvT W21.hZ (ow hw 29 rfl))) (ow hw 29 rfl) (ow hw 28 rfl) (ow hw 2 rfl) (ow hw 30 rfl) (by decide) (argsL := []) (S := []) (lenOf own_pd2 rfl) rfl rfl rfl (wt := 0) rfl (by decide) (by decide) (by decide) (by decide) (kk' := 1) rfl (nn' := 6) rfl at_112 (pc' := 115) rfl ?_
                intro vv T22 h22 W22 q22 z22
                obtain ⟨r22, rfl, q22⟩ := q22
                show OF _ _ _ _ _ _ _ T22 (mkF m 115 #[.val (.int x0), .val (.int j13), .val (.int j14), .val (.int j15), .val (.int j16), .val (.int j17), .val (.int j18), .val (.ref a19), .val (.int (0 : Int32))] [(.int r22)])
                obtain ⟨q22, rfl⟩ := q22
                refine o_iload W22 at_115 (v := (0 : Int32)) rfl (pc' := 117) rfl ?_
                refine o_icmp_ne W22 at_117 (by decide) (pq := 124) (by decide) (pc' := 120) rfl (fun hc117 => ?_) (fun hc117 => ?_)
                · exfalso
                  have hb := own_bits x0
                  have c0 : (0 : Int32).toInt = 0 := rfl
                  have c1 : (1 : Int32).toInt = 1 := rfl
                  have n0' : (nar .boolean 0).toInt = 0 := rfl
                  have n1' : (nar .boolean 1).toInt = 1 := rfl
                  have mj14 : (nar .boolean j14).toInt = j14.toInt := by rcases hj14 with ⟨rfl, _⟩ | ⟨rfl, _⟩ <;> rfl
                  have mj15 : (nar .boolean j15).toInt = j15.toInt := by rcases hj15 with ⟨rfl, _⟩ | ⟨rfl, _⟩ <;> rfl
                  have mj16 : (nar .boolean j16).toInt = j16.toInt := by rcases hj16 with ⟨rfl, _⟩ | ⟨rfl, _⟩ <;> rfl
                  have mj17 : (nar .boolean j17).toInt = j17.toInt := by rcases hj17 with ⟨rfl, _⟩ | ⟨rfl, _⟩ <;> rfl
                  have ej14 : (j14.toInt = 1 ∧ ¬ (x0 &&& 2).toInt = 0) ∨ (j14.toInt = 0 ∧ (x0 &&& 2).toInt = 0) := hj14.imp (fun u => ⟨by rw [u.1]; rfl, u.2⟩) (fun u => ⟨by rw [u.1]; rfl, u.2⟩)
                  have ej15 : (j15.toInt = 1 ∧ ¬ (x0 &&& 4).toInt = 0) ∨ (j15.toInt = 0 ∧ (x0 &&& 4).toInt = 0) := hj15.imp (fun u => ⟨by rw [u.1]; rfl, u.2⟩) (fun u => ⟨by rw [u.1]; rfl, u.2⟩)
                  have ej16 : (j16.toInt = 1 ∧ ¬ (x0 &&& 8).toInt = 0) ∨ (j16.toInt = 0 ∧ (x0 &&& 8).toInt = 0) := hj16.imp (fun u => ⟨by rw [u.1]; rfl, u.2⟩) (fun u => ⟨by rw [u.1]; rfl, u.2⟩)
                  have ej17 : (j17.toInt = 1 ∧ ¬ (x0 &&& 16).toInt = 0) ∨ (j17.toInt = 0 ∧ (x0 &&& 16).toInt = 0) := hj17.imp (fun u => ⟨by rw [u.1]; rfl, u.2⟩) (fun u => ⟨by rw [u.1]; rfl, u.2⟩)
                  rcases q22 with ⟨rfl, u⟩ | ⟨rfl, u⟩ <;> omega
                · refine o_iconst W22 (v := (1 : Int32)) at_120 rfl (pc' := 121) rfl ?_
                  refine o_goto W22 at_121 (by decide) (pq := 125) (by decide) ?_
                  refine o_retN W22 (t := .boolean) rfl (by simp) at_125 (by decide) (by decide) ?_
                  exact rfl
              · refine o_iconst W21 (v := (1 : Int32)) at_103 rfl (pc' := 104) rfl ?_
                refine o_goto W21 at_104 (by decide) (pq := 108) (by decide) ?_
                refine o_istore W21 (L' := #[.val (.int x0), .val (.int j13), .val (.int j14), .val (.int j15), .val (.int j16), .val (.int j17), .val (.int j18), .val (.ref a19), .val (.int (1 : Int32))]) at_108 rfl (pc' := 110) rfl ?_
                refine o_aload W21 at_110 (v := (.ref a19)) rfl rfl (pc' := 112) rfl ?_
                refine o_callV W21 X_a19_21 (rm4 l Z a0 hw a19 h21 n0 W21.le _ _ _ _ F_originalMandateId_a19_21 F_originalCreditorSchemeId_a19_21 F_originalDebtorAccount_a19_21 F_originalDebtorAgent_a19_21) (ow hw 26 rfl) (ow hw 27 rfl) (notFace_of_selects (args := #[]) (mvT W21.hZ (ow hw 29 rfl))) (ow hw 29 rfl) (ow hw 28 rfl) (ow hw 2 rfl) (ow hw 30 rfl) (by decide) (argsL := []) (S := []) (lenOf own_pd2 rfl) rfl rfl rfl (wt := 0) rfl (by decide) (by decide) (by decide) (by decide) (kk' := 1) rfl (nn' := 6) rfl at_112 (pc' := 115) rfl ?_
                intro vv T23 h23 W23 q23 z23
                obtain ⟨r23, rfl, q23⟩ := q23
                show OF _ _ _ _ _ _ _ T23 (mkF m 115 #[.val (.int x0), .val (.int j13), .val (.int j14), .val (.int j15), .val (.int j16), .val (.int j17), .val (.int j18), .val (.ref a19), .val (.int (1 : Int32))] [(.int r23)])
                obtain ⟨q23, rfl⟩ := q23
                refine o_iload W23 at_115 (v := (1 : Int32)) rfl (pc' := 117) rfl ?_
                refine o_icmp_ne W23 at_117 (by decide) (pq := 124) (by decide) (pc' := 120) rfl (fun hc117 => ?_) (fun hc117 => ?_)
                · exfalso
                  have hb := own_bits x0
                  have c0 : (0 : Int32).toInt = 0 := rfl
                  have c1 : (1 : Int32).toInt = 1 := rfl
                  have n0' : (nar .boolean 0).toInt = 0 := rfl
                  have n1' : (nar .boolean 1).toInt = 1 := rfl
                  have mj14 : (nar .boolean j14).toInt = j14.toInt := by rcases hj14 with ⟨rfl, _⟩ | ⟨rfl, _⟩ <;> rfl
                  have mj15 : (nar .boolean j15).toInt = j15.toInt := by rcases hj15 with ⟨rfl, _⟩ | ⟨rfl, _⟩ <;> rfl
                  have mj16 : (nar .boolean j16).toInt = j16.toInt := by rcases hj16 with ⟨rfl, _⟩ | ⟨rfl, _⟩ <;> rfl
                  have mj17 : (nar .boolean j17).toInt = j17.toInt := by rcases hj17 with ⟨rfl, _⟩ | ⟨rfl, _⟩ <;> rfl
                  have ej14 : (j14.toInt = 1 ∧ ¬ (x0 &&& 2).toInt = 0) ∨ (j14.toInt = 0 ∧ (x0 &&& 2).toInt = 0) := hj14.imp (fun u => ⟨by rw [u.1]; rfl, u.2⟩) (fun u => ⟨by rw [u.1]; rfl, u.2⟩)
                  have ej15 : (j15.toInt = 1 ∧ ¬ (x0 &&& 4).toInt = 0) ∨ (j15.toInt = 0 ∧ (x0 &&& 4).toInt = 0) := hj15.imp (fun u => ⟨by rw [u.1]; rfl, u.2⟩) (fun u => ⟨by rw [u.1]; rfl, u.2⟩)
                  have ej16 : (j16.toInt = 1 ∧ ¬ (x0 &&& 8).toInt = 0) ∨ (j16.toInt = 0 ∧ (x0 &&& 8).toInt = 0) := hj16.imp (fun u => ⟨by rw [u.1]; rfl, u.2⟩) (fun u => ⟨by rw [u.1]; rfl, u.2⟩)
                  have ej17 : (j17.toInt = 1 ∧ ¬ (x0 &&& 16).toInt = 0) ∨ (j17.toInt = 0 ∧ (x0 &&& 16).toInt = 0) := hj17.imp (fun u => ⟨by rw [u.1]; rfl, u.2⟩) (fun u => ⟨by rw [u.1]; rfl, u.2⟩)
                  rcases q23 with ⟨rfl, u⟩ | ⟨rfl, u⟩ <;> omega
                · refine o_iconst W23 (v := (1 : Int32)) at_120 rfl (pc' := 121) rfl ?_
                  refine o_goto W23 at_121 (by decide) (pq := 125) (by decide) ?_
                  refine o_retN W23 (t := .boolean) rfl (by simp) at_125 (by decide) (by decide) ?_
                  exact rfl
            refine o_if_eq W0 at_68 (by decide) (pq := 75) (by decide) (pc' := 71) rfl (fun hc68 => ?_) (fun hc68 => ?_)
            · refine o_iconst W0 (v := (0 : Int32)) at_75 rfl (pc' := 76) rfl ?_
              exact k_j18 (0 : Int32) (by first | exact Or.inl ⟨rfl, by omega⟩ | exact Or.inr ⟨rfl, by omega⟩)
            · refine o_iconst W0 (v := (1 : Int32)) at_71 rfl (pc' := 72) rfl ?_
              refine o_goto W0 at_72 (by decide) (pq := 76) (by decide) ?_
              exact k_j18 (1 : Int32) (by first | exact Or.inl ⟨rfl, by omega⟩ | exact Or.inr ⟨rfl, by omega⟩)
          refine o_if_eq W0 at_54 (by decide) (pq := 61) (by decide) (pc' := 57) rfl (fun hc54 => ?_) (fun hc54 => ?_)
          · refine o_iconst W0 (v := (0 : Int32)) at_61 rfl (pc' := 62) rfl ?_
            exact k_j17 (0 : Int32) (by first | exact Or.inl ⟨rfl, by omega⟩ | exact Or.inr ⟨rfl, by omega⟩)
          · refine o_iconst W0 (v := (1 : Int32)) at_57 rfl (pc' := 58) rfl ?_
            refine o_goto W0 at_58 (by decide) (pq := 62) (by decide) ?_
            exact k_j17 (1 : Int32) (by first | exact Or.inl ⟨rfl, by omega⟩ | exact Or.inr ⟨rfl, by omega⟩)
        refine o_if_eq W0 at_40 (by decide) (pq := 47) (by decide) (pc' := 43) rfl (fun hc40 => ?_) (fun hc40 => ?_)
        · refine o_iconst W0 (v := (0 : Int32)) at_47 rfl (pc' := 48) rfl ?_
          exact k_j16 (0 : Int32) (by first | exact Or.inl ⟨rfl, by omega⟩ | exact Or.inr ⟨rfl, by omega⟩)
        · refine o_iconst W0 (v := (1 : Int32)) at_43 rfl (pc' := 44) rfl ?_
          refine o_goto W0 at_44 (by decide) (pq := 48) (by decide) ?_
          exact k_j16 (1 : Int32) (by first | exact Or.inl ⟨rfl, by omega⟩ | exact Or.inr ⟨rfl, by omega⟩)
      refine o_if_eq W0 at_27 (by decide) (pq := 34) (by decide) (pc' := 30) rfl (fun hc27 => ?_) (fun hc27 => ?_)
      · refine o_iconst W0 (v := (0 : Int32)) at_34 rfl (pc' := 35) rfl ?_
        exact k_j15 (0 : Int32) (by first | exact Or.inl ⟨rfl, by omega⟩ | exact Or.inr ⟨rfl, by omega⟩)
      · refine o_iconst W0 (v := (1 : Int32)) at_30 rfl (pc' := 31) rfl ?_
        refine o_goto W0 at_31 (by decide) (pq := 35) (by decide) ?_
        exact k_j15 (1 : Int32) (by first | exact Or.inl ⟨rfl, by omega⟩ | exact Or.inr ⟨rfl, by omega⟩)
    refine o_if_eq W0 at_15 (by decide) (pq := 22) (by decide) (pc' := 18) rfl (fun hc15 => ?_) (fun hc15 => ?_)
    · refine o_iconst W0 (v := (0 : Int32)) at_22 rfl (pc' := 23) rfl ?_
      exact k_j14 (0 : Int32) (by first | exact Or.inl ⟨rfl, by omega⟩ | exact Or.inr ⟨rfl, by omega⟩)
    · refine o_iconst W0 (v := (1 : Int32)) at_18 rfl (pc' := 19) rfl ?_
      refine o_goto W0 at_19 (by decide) (pq := 23) (by decide) ?_
      exact k_j14 (1 : Int32) (by first | exact Or.inl ⟨rfl, by omega⟩ | exact Or.inr ⟨rfl, by omega⟩)
  refine o_if_eq W0 at_3 (by decide) (pq := 10) (by decide) (pc' := 6) rfl (fun hc3 => ?_) (fun hc3 => ?_)
  · refine o_iconst W0 (v := (0 : Int32)) at_10 rfl (pc' := 11) rfl ?_
    exact k_j13 (0 : Int32) (by first | exact Or.inl ⟨rfl, by omega⟩ | exact Or.inr ⟨rfl, by omega⟩)
  · refine o_iconst W0 (v := (1 : Int32)) at_6 rfl (pc' := 7) rfl ?_
    refine o_goto W0 at_7 (by decide) (pq := 11) (by decide) ?_
    exact k_j13 (1 : Int32) (by first | exact Or.inl ⟨rfl, by omega⟩ | exact Or.inr ⟨rfl, by omega⟩)
set_option maxRecDepth 65536 in
theorem comes_1 {Post : Tables → Env → Array Value → State → Outcome → State → Prop} (hpost : ∀ tb e args s v u, (limb_1_1.after args s (.returned v) u = true ∧ limb_1_2.after args s (.returned v) u = true ∧ True) → FrameEnd s (.returned v) u (Jvm.fieldLocs frame_1_writes args s ++ Jvm.arrayLocs frame_1_arrays args s ++ Jvm.staticLocs frame_1_statics s) 16 128 → Post tb e args s (.returned v) u) :
    ArmFor flags0 classFile x code maxLocals ret World_1 tables_1 room_1 Calls_1 rest_1 Pre_1 Post := by
  intro l hfl _ _ p e ha hc hk s m args below hf hA hF happ hP
  obtain ⟨hcalls, hrest, hpre⟩ := hP
  obtain ⟨-, -, -, hnamed, -, -, -, hat⟩ := (Spec.applies_iff hf).mp happ
  obtain ⟨hg, hn⟩ := and_e (Cond.before_iff.mp (show (Jvm.Cond.and given_1 narrow_1).before args s = true from hpre))
  obtain ⟨g0, hg1⟩ := and_e hg
  have q0 := hg1
  obtain ⟨w0, rfl⟩ : ∃ w0 : Value, args = #[w0] := by
    have hs : args.size = 1 := by simpa [Cond.value, given_1] using g0
    obtain ⟨L⟩ := args
    match L, hs with
    | [w0], _ => exact ⟨w0, rfl⟩
  have hw := fun d (hd : d ∈ tables_1) => atoms_spec (ws := Jvm.Cond.code x code maxLocals ret :: tables_1) hat d (List.mem_cons_of_mem _ hd)
  obtain ⟨i0, ei0⟩ := is_v q0
  obtain rfl : w0 = (.int i0) := Option.some.inj ei0
  obtain ⟨n, o, h1, h2, h3, _, L, rfl, ⟨rfl, -, N⟩, hq⟩ := own_law l s _ hw i0 s.heap s.heap.size (Nat.le_refl _) p e ha hc hk s m _ below hf ((Spec.applies_iff_loose hf).mp happ).1 ⟨rfl, State.Warmed39.refl s, rfl⟩ trivial
  refine ⟨n, _, h1, h2, h3, hpost _ _ _ _ _ _ ⟨Cond.after_iff.mpr rfl, Cond.after_iff.mpr (eq_i res_at (Term.int_eval (1)) rfl), trivial⟩ ⟨hq.1, hq.2.1, (hq.2.2.sift fun y hy => Or.inr (N y hy)).mono (by decide) (by decide)⟩⟩
theorem main_1_1 : Claimed_1_1 := comes_1 fun _ _ _ _ _ _ h hF => ⟨h.1, hF⟩
theorem main_1_2 : Claimed_1_2 := comes_1 fun _ _ _ _ _ _ h hF => ⟨h.2.1, hF⟩
end Jvm.Pilot.@@N@@
namespace Jvm.Pilot.@@N@@
open Jvm Jvm.ClassFile Sem Op Lib Jvm.Free Jvm.Stand Jvm.Pilot.@@N@@.Jvm.D
/-! MADE BY PROGRAM (witnessworld.py) out of the Statement's table words and the real class files: 10 classes; the members and pool entries that the words name. The judged class is class 1, her method 1. -/
namespace start1
open Jvm.ClassFile
def u (s : String) : CpInfo := .utf8 (stringToUtf16 s)
/-- a pool by its gaps: so many unusable entries, then the entry; so many at the end -/
def gap : Nat → List CpInfo → List CpInfo
  | 0, r => r
  | n + 1, r => .unusable :: gap n r
def poolList (es : List (Nat × CpInfo)) (last : Nat) : List CpInfo := es.foldr (fun e r => gap e.1 (e.2 :: r)) (gap last [])
def pool (es : List (Nat × CpInfo)) (last : Nat) : Array CpInfo := ⟨poolList es last⟩
def fileOf (pool : Array CpInfo) (this : Nat) (attrs : Array Attribute := #[]) (ms : Array MethodInfo := #[]) (fl : Nat := 33) (sup : Nat := 0) (ifs : Array Nat := #[]) (fds : Array FieldInfo := #[]) : ClassFile where
  minorVersion := 0
  majorVersion := 65
  constantPool := pool
  accessFlags := fl
  thisClass := this
  superClass := sup
  interfaces := ifs
  fields := fds
  methods := ms
  attributes := attrs
def plain (name : String) (sup : Option ClassId) : Class where
  name := name
  kind := .ordinary
  loader := none
  accessFlags := 33
  super := sup
  interfaces := #[]
  cf := none
  fields := #[]
  methods := #[]
  instanceTypes := #[]
  staticTypes := #[]
  resolved := #[]
  callSites := []
  init := .initialized
  statics := none
  mirror := none

def pool0 : Array CpInfo := pool [(5, u "<init>"), (0, u "()V"), (1, .class_ 10), (1, u "java/lang/Object")] 113

def k0c0 : Code := { maxStack := 0, maxLocals := 1, code := object_method_1_code, exceptionTable := #[], attributes := #[] }
def k0m0 : Method := { name := "<init>", desc := "()V", sig := { parameters := [], returnType := none }, accessFlags := 1, code := some k0c0 }
/-- java/lang/Object -/
def k0 : Class := { plain "java/lang/Object" none with
  accessFlags := 33
  interfaces := #[]
  cf := some (fileOf pool0 8 #[] #[{ accessFlags := 1, nameIndex := 5, descriptorIndex := 6, attributes := #[] }] 33 0 #[] #[])
  fields := #[]
  methods := #[k0m0]
  instanceTypes := #[]
  staticTypes := #[]
  resolved := Array.replicate 124 none
  statics := none }

def pool1 : Array CpInfo := pool [(2, .class_ 4), (1, u "java/lang/Object"), (0, u "<init>"), (0, u "()V"), (0, .class_ 8), (0, u "com/example/girobulk/girobulk/sdd/Amendment"), (0, .methodref 7 10), (0, .nameAndType 5 11), (0, u "(ZZZZZZ)V"), (0, .methodref 7 13), (0, .nameAndType 14 15), (0, u "hasDetails"), (0, u "()Z"), (0, .class_ 17), (0, u "com/example/girobulk/girobulk/sdd/AmendmentHasDetailsPinLaw"), (2, u "law"), (0, u "(I)Z")] 3

def k1m0 : Method := { name := "<init>", desc := "()V", sig := { parameters := [], returnType := none }, accessFlags := 2, code := none }
def k1c1 : Code := { maxStack := 8, maxLocals := 9, code := code, exceptionTable := #[], attributes := #[] }
def k1m1 : Method := { name := "law", desc := "(I)Z", sig := { parameters := [.int], returnType := some .boolean }, accessFlags := 9, code := some k1c1 }
/-- com/example/girobulk/girobulk/sdd/AmendmentHasDetailsPinLaw -/
def k1 : Class := { plain "com/example/girobulk/girobulk/sdd/AmendmentHasDetailsPinLaw" (some 0) with
  accessFlags := 49
  interfaces := #[]
  cf := some (fileOf pool1 16 #[] #[{ accessFlags := 2, nameIndex := 5, descriptorIndex := 6, attributes := #[] }, { accessFlags := 9, nameIndex := 20, descriptorIndex := 21, attributes := #[] }] 49 2 #[] #[])
  fields := #[]
  methods := #[k1m0, k1m1]
  instanceTypes := #[]
  staticTypes := #[]
  resolved := Array.replicate 25 none
  statics := none }

def pool2 : Array CpInfo := pool [(1, .methodref 2 3), (0, .class_ 4), (0, .nameAndType 5 6), (0, u "java/lang/Object"), (0, u "<init>"), (0, u "()V"), (0, .class_ 8), (0, u "java/lang/Record")] 13

def k2c0 : Code := { maxStack := 1, maxLocals := 1, code := jdk_30_method_1_code, exceptionTable := #[], attributes := #[] }
def k2m0 : Method := { name := "<init>", desc := "()V", sig := { parameters := [], returnType := none }, accessFlags := 4, code := some k2c0 }
/-- java/lang/Record -/
def k2 : Class := { plain "java/lang/Record" (some 0) with
  accessFlags := 1057
  interfaces := #[]
  cf := some (fileOf pool2 7 #[] #[{ accessFlags := 4, nameIndex := 5, descriptorIndex := 6, attributes := #[] }] 1057 2 #[] #[])
  fields := #[]
  methods := #[k2m0]
  instanceTypes := #[]
  staticTypes := #[]
  resolved := Array.replicate 22 none
  statics := none }

def pool3 : Array CpInfo := pool [(1, .methodref 2 3), (0, .class_ 4), (0, .nameAndType 5 6), (0, u "java/lang/Record"), (0, u "<init>"), (0, u "()V"), (0, .fieldref 8 9), (0, .class_ 10), (0, .nameAndType 11 12), (0, u "com/example/girobulk/girobulk/sdd/Amendment"), (0, u "indicated"), (0, u "Z"), (0, .fieldref 8 14), (0, .nameAndType 15 12), (0, u "originalMandateId"), (0, .fieldref 8 17), (0, .nameAndType 18 12), (0, u "originalCreditorSchemeId"), (0, .fieldref 8 20), (0, .nameAndType 21 12), (0, u "originalDebtorAccount"), (0, .fieldref 8 23), (0, .nameAndType 24 12), (0, u "originalDebtorAgent"), (0, .fieldref 8 26), (0, .nameAndType 27 12), (0, u "sameMandateNewDebtorAccount"), (2, u "ALL"), (0, u "[Lcom/example/girobulk/girobulk/sdd/Amendment;"), (2, u "DETAILS"), (0, u "Ljava/util/List;"), (32, u "DETAIL_NAMES"), (19, u "(ZZZZZZ)V"), (0, u "SAME_MANDATE_NEW_DEBTOR_ACCOUNT"), (0, u "Ljava/lang/String;"), (3, u "PARTS"), (0, u "I"), (10, u "hasDetails"), (0, u "()Z")] 30

def k3c0 : Code := { maxStack := 2, maxLocals := 7, code := prog_88_method_1_code, exceptionTable := #[], attributes := #[] }
def k3m0 : Method := { name := "<init>", desc := "(ZZZZZZ)V", sig := { parameters := [.boolean, .boolean, .boolean, .boolean, .boolean, .boolean], returnType := none }, accessFlags := 1, code := some k3c0 }
def k3c1 : Code := { maxStack := 1, maxLocals := 1, code := prog_88_method_3_code, exceptionTable := #[], attributes := #[] }
def k3m1 : Method := { name := "hasDetails", desc := "()Z", sig := { parameters := [], returnType := some .boolean }, accessFlags := 1, code := some k3c1 }
/-- com/example/girobulk/girobulk/sdd/Amendment -/
def k3 : Class := { plain "com/example/girobulk/girobulk/sdd/Amendment" (some 2) with
  accessFlags := 49
  interfaces := #[]
  cf := some (fileOf pool3 8 #[] #[{ accessFlags := 1, nameIndex := 5, descriptorIndex := 88, attributes := #[] }, { accessFlags := 1, nameIndex := 106, descriptorIndex := 107, attributes := #[] }] 49 2 #[] #[{ accessFlags := 18, nameIndex := 11, descriptorIndex := 12, attributes := #[] }, { accessFlags := 18, nameIndex := 15, descriptorIndex := 12, attributes := #[] }, { accessFlags := 18, nameIndex := 18, descriptorIndex := 12, attributes := #[] }, { accessFlags := 18, nameIndex := 21, descriptorIndex := 12, attributes := #[] }, { accessFlags := 18, nameIndex := 24, descriptorIndex := 12, attributes := #[] }, { accessFlags := 18, nameIndex := 27, descriptorIndex := 12, attributes := #[] }, { accessFlags := 25, nameIndex := 89, descriptorIndex := 90, attributes := #[] }, { accessFlags := 26, nameIndex := 94, descriptorIndex := 95, attributes := #[] }, { accessFlags := 26, nameIndex := 30, descriptorIndex := 31, attributes := #[] }, { accessFlags := 26, nameIndex := 68, descriptorIndex := 35, attributes := #[] }, { accessFlags := 26, nameIndex := 34, descriptorIndex := 35, attributes := #[] }])
  fields := #[{ name := "indicated", type := .boolean, accessFlags := 18, slot := 0, constantValue := 0 }, { name := "originalMandateId", type := .boolean, accessFlags := 18, slot := 1, constantValue := 0 }, { name := "originalCreditorSchemeId", type := .boolean, accessFlags := 18, slot := 2, constantValue := 0 }, { name := "originalDebtorAccount", type := .boolean, accessFlags := 18, slot := 3, constantValue := 0 }, { name := "originalDebtorAgent", type := .boolean, accessFlags := 18, slot := 4, constantValue := 0 }, { name := "sameMandateNewDebtorAccount", type := .boolean, accessFlags := 18, slot := 5, constantValue := 0 }, { name := "SAME_MANDATE_NEW_DEBTOR_ACCOUNT", type := (.object "java/lang/String"), accessFlags := 25, slot := 0, constantValue := 0 }, { name := "PARTS", type := .int, accessFlags := 26, slot := 1, constantValue := 0 }, { name := "ALL", type := (.array (.object "com/example/girobulk/girobulk/sdd/Amendment")), accessFlags := 26, slot := 2, constantValue := 0 }, { name := "DETAIL_NAMES", type := (.object "java/util/List"), accessFlags := 26, slot := 3, constantValue := 0 }, { name := "DETAILS", type := (.object "java/util/List"), accessFlags := 26, slot := 4, constantValue := 0 }]
  methods := #[k3m0, k3m1]
  instanceTypes := #[.boolean, .boolean, .boolean, .boolean, .boolean, .boolean]
  staticTypes := #[(.object "java/lang/String"), .int, (.array (.object "com/example/girobulk/girobulk/sdd/Amendment")), (.object "java/util/List"), (.object "java/util/List")]
  resolved := Array.replicate 138 none
  statics := none }

def pool4 : Array CpInfo := pool [(1, u "java/lang/Cloneable"), (0, .class_ 1), (0, u "java/lang/Object"), (0, .class_ 3)] 3

/-- java/lang/Cloneable -/
def k4 : Class := { plain "java/lang/Cloneable" (some 0) with
  accessFlags := 1537
  interfaces := #[]
  cf := some (fileOf pool4 2 #[] #[] 1537 4 #[] #[])
  fields := #[]
  methods := #[]
  instanceTypes := #[]
  staticTypes := #[]
  resolved := Array.replicate 8 none
  statics := none }

def pool5 : Array CpInfo := pool [(1, u "java/io/Serializable"), (0, .class_ 1), (0, u "java/lang/Object"), (0, .class_ 3)] 3

/-- java/io/Serializable -/
def k5 : Class := { plain "java/io/Serializable" (some 0) with
  accessFlags := 1537
  interfaces := #[]
  cf := some (fileOf pool5 2 #[] #[] 1537 4 #[] #[])
  fields := #[]
  methods := #[]
  instanceTypes := #[]
  staticTypes := #[]
  resolved := Array.replicate 8 none
  statics := none }

/-- the primitive byte -/
def k6 : Class := { plain "byte" none with kind := .primitive 'B', accessFlags := 0x411 }
/-- [B -/
def k7 : Class := { plain "[B" (some 0) with kind := .array 6 .byte, interfaces := #[4, 5], accessFlags := 1041 }

/-- the primitive int -/
def k8 : Class := { plain "int" none with kind := .primitive 'I', accessFlags := 0x411 }
/-- [I -/
def k9 : Class := { plain "[I" (some 0) with kind := .array 8 .int, interfaces := #[4, 5], accessFlags := 1041 }

def heap : Heap := #[]
def classes : Array Class := #[k0, k1, k2, k3, k4, k5, k6, k7, k8, k9]
def interned : List (Array UInt16 × Addr) := []
def slotsUsed : Nat := 0
def theMethod : MethodId := ⟨1, 1⟩
def args0 : Array Value := #[.int 5]
def aboutOver (below : List Frame) : State where
  vm := { classes := classes, interned := interned.toArray }
  heap := heap
  slotsUsed := slotsUsed
  threads := #[{ frames := .invoking theMethod args0 :: below }]
def below0 : List Frame := [.native { method := ⟨0, 0⟩, args := #[] }]
def about1 : State := aboutOver below0
def p0 : Program := .bare "" "" ""
def e0 : Env := launch0.env 0 0 0
theorem w_frames : about1.frames = Frame.invoking theMethod args0 :: below0 := rfl
set_option maxRecDepth 65536 in
theorem w_args : argsFit about1.vm theMethod args0 = true := by decide +kernel
set_option maxRecDepth 65536 in
theorem w_heap : heapFits about1 = true := by decide +kernel
set_option maxRecDepth 65536 in
theorem w_runnable : about1.curStatus? = some .runnable := by decide +kernel
set_option maxRecDepth 65536 in
theorem w_alone : about1.alone = true := by decide +kernel
set_option maxRecDepth 65536 in
theorem w_named : about1.methodNamed? x = some theMethod := by decide +kernel
set_option maxRecDepth 65536 in
theorem w_hears : about1.hears theMethod below0 = true := by decide +kernel
set_option maxRecDepth 65536 in
theorem w_ripe : about1.ripe theMethod args0 below0 = true := by decide +kernel
theorem w_running : about1.status = .running := rfl
set_option maxRecDepth 65536 in
theorem w_room : about1.hasRoom e0.platform room_1 = true :=
  launch0.hasRoom_least _ room_1 (by decide +kernel) (by decide +kernel) (by decide +kernel) (by decide +kernel) (by decide +kernel) (by decide +kernel)
theorem allAtoms_all (ts : List Jvm.Cond) (a : Array Jvm.Value) (st : Jvm.State) : (allAtoms ts).before a st = ts.all (fun c => c.before a st) := by
  induction ts with
  | nil => rfl
  | cons c t ih =>
    show (Jvm.Cond.and c (allAtoms t)).before a st = _
    rw [Jvm.Cond.before_and, ih, List.all_cons]
def words1 : List Jvm.Cond := Jvm.Cond.code x code maxLocals ret :: tables_1
/-- a 'code' word, met by the world's own term for the bytes: nothing is compared byte by byte -/
theorem code_word {y : MethodName} {bytes : ByteArray} {mx : Nat} {rt : Option FieldType} {a : Array Value} {s : State} {m : MethodId} {meth : Method} {c : Code} (h1 : s.methodNamed? y = some m) (h2 : s.vm.method? m = some meth) (h3 : meth.code = some c) (h4 : c.code = bytes)
    (h5 : (c.maxLocals == mx && c.exceptionTable.isEmpty && decide (c.maxStack ≤ mostOperands) && decide (meth.sig.returnType = rt) && !meth.locks && decide (parseMethodDescriptor y.desc = some meth.sig)) = true) : (Jvm.Cond.code y bytes mx rt).before a s = true := by
  simp only [Bool.and_eq_true, beq_iff_eq, Bool.not_eq_true', decide_eq_true_eq] at h5
  obtain ⟨⟨⟨⟨⟨g1, g2⟩, g3⟩, g4⟩, g5⟩, g6⟩ := h5
  simp [Cond.before, Cond.holds, Cond.value, h1, h2, h3, h4, g1, g2, g3, g4, g5, g6]
def isCode : Jvm.Cond → Bool
  | .code _ _ _ _ => true
  | _ => false
theorem all_split {L : List Jvm.Cond} {P : Jvm.Cond → Bool} (h1 : L.all (fun c => isCode c || P c) = true) (h2 : ∀ c ∈ L.filter isCode, P c = true) : L.all P = true := by
  refine List.all_eq_true.mpr fun c hc => ?_
  have h := List.all_eq_true.mp h1 c hc
  rcases Bool.eq_false_or_eq_true (isCode c) with hi | hi
  · exact h2 c (List.mem_filter.mpr ⟨hc, hi⟩)
  · simpa [hi] using h
set_option maxRecDepth 65536 in
theorem w_c0 : (Jvm.Cond.code x code maxLocals ret).before args0 about1 = true := code_word (m := ⟨1, 1⟩) (meth := k1m1) (c := k1c1) (by decide +kernel) rfl rfl rfl (by decide +kernel)
set_option maxRecDepth 65536 in
theorem w_c1 : (Jvm.Cond.code ({ cls := "com/example/girobulk/girobulk/sdd/Amendment", name := "<init>", desc := "(ZZZZZZ)V" } : Jvm.MethodName) prog_88_method_1_code (7 : Nat) (Option.none : Option Jvm.ClassFile.FieldType)).before args0 about1 = true := code_word (m := ⟨3, 0⟩) (meth := k3m0) (c := k3c0) (by decide +kernel) rfl rfl rfl (by decide +kernel)
set_option maxRecDepth 65536 in
theorem w_c2 : (Jvm.Cond.code ({ cls := "java/lang/Record", name := "<init>", desc := "()V" } : Jvm.MethodName) jdk_30_method_1_code (1 : Nat) (Option.none : Option Jvm.ClassFile.FieldType)).before args0 about1 = true := code_word (m := ⟨2, 0⟩) (meth := k2m0) (c := k2c0) (by decide +kernel) rfl rfl rfl (by decide +kernel)
set_option maxRecDepth 65536 in
theorem w_c3 : (Jvm.Cond.code ({ cls := "java/lang/Object", name := "<init>", desc := "()V" } : Jvm.MethodName) object_method_1_code (1 : Nat) (Option.none : Option Jvm.ClassFile.FieldType)).before args0 about1 = true := code_word (m := ⟨0, 0⟩) (meth := k0m0) (c := k0c0) (by decide +kernel) rfl rfl rfl (by decide +kernel)
set_option maxRecDepth 65536 in
theorem w_c4 : (Jvm.Cond.code ({ cls := "com/example/girobulk/girobulk/sdd/Amendment", name := "hasDetails", desc := "()Z" } : Jvm.MethodName) prog_88_method_3_code (1 : Nat) (Option.some Jvm.ClassFile.FieldType.boolean)).before args0 about1 = true := code_word (m := ⟨3, 1⟩) (meth := k3m1) (c := k3c1) (by decide +kernel) rfl rfl rfl (by decide +kernel)
def codes1 : List Jvm.Cond := [Jvm.Cond.code x code maxLocals ret, Jvm.Cond.code ({ cls := "com/example/girobulk/girobulk/sdd/Amendment", name := "<init>", desc := "(ZZZZZZ)V" } : Jvm.MethodName) prog_88_method_1_code (7 : Nat) (Option.none : Option Jvm.ClassFile.FieldType), Jvm.Cond.code ({ cls := "java/lang/Record", name := "<init>", desc := "()V" } : Jvm.MethodName) jdk_30_method_1_code (1 : Nat) (Option.none : Option Jvm.ClassFile.FieldType), Jvm.Cond.code ({ cls := "java/lang/Object", name := "<init>", desc := "()V" } : Jvm.MethodName) object_method_1_code (1 : Nat) (Option.none : Option Jvm.ClassFile.FieldType), Jvm.Cond.code ({ cls := "com/example/girobulk/girobulk/sdd/Amendment", name := "hasDetails", desc := "()Z" } : Jvm.MethodName) prog_88_method_3_code (1 : Nat) (Option.some Jvm.ClassFile.FieldType.boolean)]
set_option maxRecDepth 65536 in
theorem codes_eq : words1.filter isCode = codes1 := rfl
theorem w_codes : ∀ c ∈ words1.filter isCode, c.before args0 about1 = true := by
  rw [codes_eq]
  intro c hc
  simp only [codes1, List.mem_cons, List.not_mem_nil, or_false] at hc
  rcases hc with rfl | rfl | rfl | rfl | rfl
  · exact w_c0
  · exact w_c1
  · exact w_c2
  · exact w_c3
  · exact w_c4
set_option maxRecDepth 65536 in
theorem w_t1 : (words1.take 24).all (fun c => isCode c || c.before args0 about1) = true := by decide +kernel
set_option maxRecDepth 65536 in
theorem w_t2 : (words1.drop 24).all (fun c => isCode c || c.before args0 about1) = true := by decide +kernel
theorem w_tables : (allAtoms (Jvm.Cond.code x code maxLocals ret :: tables_1)).before args0 about1 = true := by
  rw [allAtoms_all]
  show words1.all (fun c => c.before args0 about1) = true
  refine all_split ?_ w_codes
  rw [← List.take_append_drop 24 words1, List.all_append, w_t1, w_t2]
  rfl
set_option maxRecDepth 65536 in
theorem w_case : (Jvm.Cond.and given_1 narrow_1).before args0 about1 = true := by decide +kernel
theorem w_applies : (headSpec (Jvm.Cond.code x code maxLocals ret :: tables_1) room_1).applies x e0.platform about1 = true :=
  (Spec.applies_iff w_frames).mpr ⟨w_running, w_runnable, w_alone, w_named, w_hears, w_ripe, w_room, w_tables⟩
theorem atStart : AtStart classFile x code maxLocals ret World_1 tables_1 room_1 Calls_1 rest_1 Pre_1 launch0 p0 e0 about1 theMethod args0 below0 :=
  ⟨lists_1, trivial, launch0.admits_env _ _ _, launch0.least_env, fairChoices_fair.cas, fairChoices_fair.clock, w_frames, w_args, w_heap, w_applies, trivial, trivial, w_case⟩
end start1
theorem witness_1 : WitnessClaimed_1 := ⟨start1.p0, start1.e0, start1.about1, start1.theMethod, start1.args0, start1.below0, start1.atStart⟩
end Jvm.Pilot.@@N@@
