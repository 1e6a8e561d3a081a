import JvmDerived
import JvmDerived.Pilot.@@N@@Statement
import JvmDerived.Pilot.@@N@@Code
set_option linter.unusedVariables false
set_option linter.unusedSimpArgs false
@@BLOCK:NumsL.lean.txt@@
namespace Jvm.Pilot.@@N@@
open Jvm Jvm.ClassFile Sem Op Lib Jvm.Free Jvm.Stand Jvm.LawKit Jvm.RoadKit Bundle Jvm.Pilot.@@N@@.Jvm.D
section OwnKit
variable {p : Program} {l : Launch} {e : Env} {R : Room} {s : State} {m : MethodId} {args : Array Value} {below : List Frame} {meth : Method} {c : Code} {Z : State} {B : ByteArray} {ml : Nat} {own nm : String} {rt : Option FieldType} {n0 z0 n1 z1 kc ns : Nat} {EN : Outcome → State → List Loc → Prop} {T : State} {h h' : Heap} {kk nn kk' nn' : Nat} {Q : Option Value → Heap → Prop} {pc pc' pq : Nat} {L L' : Array Slot} {S : List Value} {a0 : Array Value}
/-- what one body's walk keeps throughout -/
def OCx (p : Program) (s : State) (m : MethodId) (meth : Method) (c : Code) (Z : State) (B : ByteArray) (ml : Nat) (own nm : String) (rt : Option FieldType) : Prop :=
  p.tables.exec = Jvm.exec ∧ Z.Warmed39 s.vm ∧ c.code = B ∧ c.maxLocals = ml ∧ s.vm.findClass own = some m.cls ∧ meth.name = nm ∧ meth.sig.returnType = rt ∧ meth.locks = false
/-- where the walk stands: the state T, its heap h, what was made so far -/
def OW (p : Program) (l : Launch) (e : Env) (R : Room) (s : State) (m : MethodId) (args : Array Value) (below : List Frame) (meth : Method) (c : Code) (Z : State) (B : ByteArray) (ml : Nat) (own nm : String) (rt : Option FieldType) (n0 z0 : Nat) (T : State) (h : Heap) (kk nn : Nat) : Prop :=
  OCx p s m meth c Z B ml own nm rt ∧ n0 ≤ z0 ∧ z0 ≤ h.size ∧ T.heap = h ∧ ∃ locs, Stand p l e R s m args below meth c T locs kk nn ∧ Fr n0 locs
/-- what a body leaves: its own word, and that nothing old was written or lost -/
def OQ (Q : Option Value → Heap → Prop) (z0 n0 : Nat) (v : Option Value) (h : Heap) (L : List Loc) : Prop := Q v h ∧ z0 ≤ h.size ∧ Fr n0 L
/-- the run from here ends well -/
def OF (p : Program) (e : Env) (below : List Frame) (n0 z0 : Nat) (EN : Outcome → State → List Loc → Prop) (Q : Option Value → Heap → Prop) (T : State) (f : JFrame) : Prop :=
  ∃ s₂ o, Steps p.tables e below (T.setTop f) s₂ ∧ s₂.status = .running ∧ Ended s₂ below o ∧ ∃ v L, o = .returned v ∧ OQ Q z0 n0 v s₂.heap L ∧ EN o s₂ L
/-- the end as the narrow frame has it -/
def ENn (s : State) (kc ns : Nat) : Outcome → State → List Loc → Prop := fun o t L => FrameEnd s o t L kc ns
theorem OW.here (W : OW p l e R s m args below meth c Z B ml own nm rt n0 z0 T h kk nn) : At T m c below := by obtain ⟨-, -, -, -, _, X, -⟩ := W; exact X.here
theorem OW.hx (W : OW p l e R s m args below meth c Z B ml own nm rt n0 z0 T h kk nn) : p.tables.exec = Jvm.exec := W.1.1
theorem OW.hZ (W : OW p l e R s m args below meth c Z B ml own nm rt n0 z0 T h kk nn) : Z.Warmed39 s.vm := W.1.2.1
theorem OW.by (W : OW p l e R s m args below meth c Z B ml own nm rt n0 z0 T h kk nn) : c.code = B := W.1.2.2.1
theorem OW.hml (W : OW p l e R s m args below meth c Z B ml own nm rt n0 z0 T h kk nn) : c.maxLocals = ml := W.1.2.2.2.1
theorem OW.hown (W : OW p l e R s m args below meth c Z B ml own nm rt n0 z0 T h kk nn) : s.vm.findClass own = some m.cls := W.1.2.2.2.2.1
theorem OW.le (W : OW p l e R s m args below meth c Z B ml own nm rt n0 z0 T h kk nn) : n0 ≤ h.size := Nat.le_trans W.2.1 W.2.2.1
theorem OF.step {T' : State} {f f' : JFrame} (hs : ∀ t, Steps p.tables e below (T'.setTop f') t → Steps p.tables e below (T.setTop f) t) (q : OF p e below n1 z1 EN Q T' f') : OF p e below n1 z1 EN Q T f := by
  obtain ⟨s₂, o, h1, h2⟩ := q
  exact ⟨s₂, o, hs _ h1, h2⟩
theorem OF.cast {f f' : JFrame} (q : f = f') (h : OF p e below n1 z1 EN Q T f') : OF p e below n1 z1 EN Q T f := q ▸ h
theorem o_iloadN {i : Fin 4} {v : Int32} (W : OW p l e R s m args below meth c Z B ml own nm rt n0 z0 T h kk nn) (hd : decode B pc = .ok (.iload_n i, 1)) (hl : L[i.val]? = some (.val (.int v))) (hp : pc + 1 = pc')
    (k1 : OF p e below n1 z1 EN Q T (mkF m pc' L (.int v :: S))) : OF p e below n1 z1 EN Q T (mkF m pc L S) := by
  subst hp; exact OF.step (fun t q => XS.iloadN W.here W.hx rfl (hb W.by hd) hl q) k1
theorem o_iload {i : Nat} {v : Int32} (W : OW p l e R s m args below meth c Z B ml own nm rt n0 z0 T h kk nn) (hd : decode B pc = .ok (.iload i, 2)) (hl : L[i]? = some (.val (.int v))) (hp : pc + 2 = pc')
    (k1 : OF p e below n1 z1 EN Q T (mkF m pc' L (.int v :: S))) : OF p e below n1 z1 EN Q T (mkF m pc L S) := by
  subst hp; exact OF.step (fun t q => XS.iload W.here W.hx rfl (hb W.by hd) hl q) k1
theorem o_lloadN {i : Fin 4} {v : Int64} (W : OW p l e R s m args below meth c Z B ml own nm rt n0 z0 T h kk nn) (hd : decode B pc = .ok (.lload_n i, 1)) (hl : L[i.val]? = some (.val (.long v))) (hp : pc + 1 = pc')
    (k1 : OF p e below n1 z1 EN Q T (mkF m pc' L (.long v :: S))) : OF p e below n1 z1 EN Q T (mkF m pc L S) := by
  subst hp; exact OF.step (fun t q => XS.lloadN W.here W.hx rfl (hb W.by hd) hl q) k1
theorem o_lload {i : Nat} {v : Int64} (W : OW p l e R s m args below meth c Z B ml own nm rt n0 z0 T h kk nn) (hd : decode B pc = .ok (.lload i, 2)) (hl : L[i]? = some (.val (.long v))) (hp : pc + 2 = pc')
    (k1 : OF p e below n1 z1 EN Q T (mkF m pc' L (.long v :: S))) : OF p e below n1 z1 EN Q T (mkF m pc L S) := by
  subst hp; exact OF.step (fun t q => XS.lload W.here W.hx rfl (hb W.by hd) hl q) k1
theorem o_aloadN {i : Fin 4} {v : Value} (W : OW p l e R s m args below meth c Z B ml own nm rt n0 z0 T h kk nn) (hd : decode B pc = .ok (.aload_n i, 1)) (hl : L[i.val]? = some (.val v)) (hv : v.isRef = true) (hp : pc + 1 = pc')
    (k1 : OF p e below n1 z1 EN Q T (mkF m pc' L (v :: S))) : OF p e below n1 z1 EN Q T (mkF m pc L S) := by
  subst hp; exact OF.step (fun t q => XS.aloadN W.here W.hx rfl (hb W.by hd) hl hv q) k1
theorem o_aload {i : Nat} {v : Value} (W : OW p l e R s m args below meth c Z B ml own nm rt n0 z0 T h kk nn) (hd : decode B pc = .ok (.aload i, 2)) (hl : L[i]? = some (.val v)) (hv : v.isRef = true) (hp : pc + 2 = pc')
    (k1 : OF p e below n1 z1 EN Q T (mkF m pc' L (v :: S))) : OF p e below n1 z1 EN Q T (mkF m pc L S) := by
  subst hp; exact OF.step (fun t q => XS.aload W.here W.hx rfl (hb W.by hd) hl hv q) k1
theorem o_istoreN {i : Fin 4} {x : Int32} (W : OW p l e R s m args below meth c Z B ml own nm rt n0 z0 T h kk nn) (hd : decode B pc = .ok (.istore_n i, 1)) (hl : storeLocals L i.val (.int x) = some L') (hp : pc + 1 = pc')
    (k1 : OF p e below n1 z1 EN Q T (mkF m pc' L' S)) : OF p e below n1 z1 EN Q T (mkF m pc L (.int x :: S)) := by
  subst hp; exact OF.step (fun t q => XS.istoreN W.here W.hx rfl (hb W.by hd) rfl hl q) k1
theorem o_istoreNG {i : Fin 4} {x : Int32} {Lf : Int32 → Array Slot} (W : OW p l e R s m args below meth c Z B ml own nm rt n0 z0 T h kk nn) (hd : decode B pc = .ok (.istore_n i, 1)) (hl : storeLocals L i.val (.int x) = some (Lf x)) (hp : pc + 1 = pc')
    (k1 : ∀ v, v = x → OF p e below n1 z1 EN Q T (mkF m pc' (Lf v) S)) : OF p e below n1 z1 EN Q T (mkF m pc L (.int x :: S)) := o_istoreN W hd hl hp (k1 x rfl)
theorem o_istore {i : Nat} {x : Int32} (W : OW p l e R s m args below meth c Z B ml own nm rt n0 z0 T h kk nn) (hd : decode B pc = .ok (.istore i, 2)) (hl : storeLocals L i (.int x) = some L') (hp : pc + 2 = pc')
    (k1 : OF p e below n1 z1 EN Q T (mkF m pc' L' S)) : OF p e below n1 z1 EN Q T (mkF m pc L (.int x :: S)) := by
  subst hp; exact OF.step (fun t q => XS.istore W.here W.hx rfl (hb W.by hd) rfl hl q) k1
theorem o_istoreG {i : Nat} {x : Int32} {Lf : Int32 → Array Slot} (W : OW p l e R s m args below meth c Z B ml own nm rt n0 z0 T h kk nn) (hd : decode B pc = .ok (.istore i, 2)) (hl : storeLocals L i (.int x) = some (Lf x)) (hp : pc + 2 = pc')
    (k1 : ∀ v, v = x → OF p e below n1 z1 EN Q T (mkF m pc' (Lf v) S)) : OF p e below n1 z1 EN Q T (mkF m pc L (.int x :: S)) := o_istore W hd hl hp (k1 x rfl)
theorem o_lstoreN {i : Fin 4} {x : Int64} (W : OW p l e R s m args below meth c Z B ml own nm rt n0 z0 T h kk nn) (hd : decode B pc = .ok (.lstore_n i, 1)) (hl : storeLocals L i.val (.long x) = some L') (hp : pc + 1 = pc')
    (k1 : OF p e below n1 z1 EN Q T (mkF m pc' L' S)) : OF p e below n1 z1 EN Q T (mkF m pc L (.long x :: S)) := by
  subst hp; exact OF.step (fun t q => XS.lstoreN W.here W.hx rfl (hb W.by hd) rfl hl q) k1
theorem o_lstoreNG {i : Fin 4} {x : Int64} {Lf : Int64 → Array Slot} (W : OW p l e R s m args below meth c Z B ml own nm rt n0 z0 T h kk nn) (hd : decode B pc = .ok (.lstore_n i, 1)) (hl : storeLocals L i.val (.long x) = some (Lf x)) (hp : pc + 1 = pc')
    (k1 : ∀ v, v = x → OF p e below n1 z1 EN Q T (mkF m pc' (Lf v) S)) : OF p e below n1 z1 EN Q T (mkF m pc L (.long x :: S)) := o_lstoreN W hd hl hp (k1 x rfl)
theorem o_lstore {i : Nat} {x : Int64} (W : OW p l e R s m args below meth c Z B ml own nm rt n0 z0 T h kk nn) (hd : decode B pc = .ok (.lstore i, 2)) (hl : storeLocals L i (.long x) = some L') (hp : pc + 2 = pc')
    (k1 : OF p e below n1 z1 EN Q T (mkF m pc' L' S)) : OF p e below n1 z1 EN Q T (mkF m pc L (.long x :: S)) := by
  subst hp; exact OF.step (fun t q => XS.lstore W.here W.hx rfl (hb W.by hd) rfl hl q) k1
theorem o_lstoreG {i : Nat} {x : Int64} {Lf : Int64 → Array Slot} (W : OW p l e R s m args below meth c Z B ml own nm rt n0 z0 T h kk nn) (hd : decode B pc = .ok (.lstore i, 2)) (hl : storeLocals L i (.long x) = some (Lf x)) (hp : pc + 2 = pc')
    (k1 : ∀ v, v = x → OF p e below n1 z1 EN Q T (mkF m pc' (Lf v) S)) : OF p e below n1 z1 EN Q T (mkF m pc L (.long x :: S)) := o_lstore W hd hl hp (k1 x rfl)
theorem o_astoreN {i : Fin 4} {x : Value} (W : OW p l e R s m args below meth c Z B ml own nm rt n0 z0 T h kk nn) (hd : decode B pc = .ok (.astore_n i, 1)) (hv : x.isRef = true) (hl : storeLocals L i.val x = some L') (hp : pc + 1 = pc')
    (k1 : OF p e below n1 z1 EN Q T (mkF m pc' L' S)) : OF p e below n1 z1 EN Q T (mkF m pc L (x :: S)) := by
  subst hp; exact OF.step (fun t q => XS.astoreN W.here W.hx rfl (hb W.by hd) rfl hv hl q) k1
theorem o_astore {i : Nat} {x : Value} (W : OW p l e R s m args below meth c Z B ml own nm rt n0 z0 T h kk nn) (hd : decode B pc = .ok (.astore i, 2)) (hv : x.isRef = true) (hl : storeLocals L i x = some L') (hp : pc + 2 = pc')
    (k1 : OF p e below n1 z1 EN Q T (mkF m pc' L' S)) : OF p e below n1 z1 EN Q T (mkF m pc L (x :: S)) := by
  subst hp; exact OF.step (fun t q => XS.astore W.here W.hx rfl (hb W.by hd) rfl hv hl q) k1
theorem o_iconst {i : Int} {v : Int32} (W : OW p l e R s m args below meth c Z B ml own nm rt n0 z0 T h kk nn) (hd : decode B pc = .ok (.iconst i, 1)) (hv : Int32.ofInt i = v) (hp : pc + 1 = pc')
    (k1 : OF p e below n1 z1 EN Q T (mkF m pc' L (.int v :: S))) : OF p e below n1 z1 EN Q T (mkF m pc L S) := by
  subst hp hv; exact OF.step (fun t q => XS.iconst W.here W.hx rfl (hb W.by hd) q) k1
theorem o_bipush {i : Int} {v : Int32} (W : OW p l e R s m args below meth c Z B ml own nm rt n0 z0 T h kk nn) (hd : decode B pc = .ok (.bipush i, 2)) (hv : (Int8.ofInt i).toInt32 = v) (hp : pc + 2 = pc')
    (k1 : OF p e below n1 z1 EN Q T (mkF m pc' L (.int v :: S))) : OF p e below n1 z1 EN Q T (mkF m pc L S) := by
  subst hp hv; exact OF.step (fun t q => XS.bipush W.here W.hx rfl (hb W.by hd) q) k1
theorem o_sipush {i : Int} {v : Int32} (W : OW p l e R s m args below meth c Z B ml own nm rt n0 z0 T h kk nn) (hd : decode B pc = .ok (.sipush i, 3)) (hv : (Int16.ofInt i).toInt32 = v) (hp : pc + 3 = pc')
    (k1 : OF p e below n1 z1 EN Q T (mkF m pc' L (.int v :: S))) : OF p e below n1 z1 EN Q T (mkF m pc L S) := by
  subst hp hv; exact OF.step (fun t q => XS.sipush W.here W.hx rfl (hb W.by hd) q) k1
theorem o_lconst {i : Fin 2} {v : Int64} (W : OW p l e R s m args below meth c Z B ml own nm rt n0 z0 T h kk nn) (hd : decode B pc = .ok (.lconst i, 1)) (hv : Int64.ofNat i = v) (hp : pc + 1 = pc')
    (k1 : OF p e below n1 z1 EN Q T (mkF m pc' L (.long v :: S))) : OF p e below n1 z1 EN Q T (mkF m pc L S) := by
  subst hp hv; exact OF.step (fun t q => XS.lconst W.here W.hx rfl (hb W.by hd) q) k1
theorem o_ldc {i : Nat} {v : Int32} (W : OW p l e R s m args below meth c Z B ml own nm rt n0 z0 T h kk nn) (w : (Jvm.Cond.constant own i v).before a0 Z = true) (hd : decode B pc = .ok (.ldc i, 2)) (hp : pc + 2 = pc')
    (k1 : OF p e below n1 z1 EN Q T (mkF m pc' L (.int v :: S))) : OF p e below n1 z1 EN Q T (mkF m pc L S) := by
  subst hp; obtain ⟨_, X, _⟩ := W.2.2.2.2; exact OF.step (fun t q => X.ldcInt W.hx W.hown (mvT W.hZ w) (g := mkF m pc L S) rfl (hb W.by hd) t q) k1
theorem o_ldc_w {i : Nat} {v : Int32} (W : OW p l e R s m args below meth c Z B ml own nm rt n0 z0 T h kk nn) (w : (Jvm.Cond.constant own i v).before a0 Z = true) (hd : decode B pc = .ok (.ldc_w i, 3)) (hp : pc + 3 = pc')
    (k1 : OF p e below n1 z1 EN Q T (mkF m pc' L (.int v :: S))) : OF p e below n1 z1 EN Q T (mkF m pc L S) := by
  subst hp; obtain ⟨_, X, _⟩ := W.2.2.2.2; exact OF.step (fun t q => X.ldcwInt W.hx W.hown (mvT W.hZ w) (g := mkF m pc L S) rfl (hb W.by hd) t q) k1
theorem o_ldc2_w {i : Nat} {v : Int64} (W : OW p l e R s m args below meth c Z B ml own nm rt n0 z0 T h kk nn) (w : (Jvm.Cond.constantLong own i v).before a0 Z = true) (hd : decode B pc = .ok (.ldc2_w i, 3)) (hp : pc + 3 = pc')
    (k1 : OF p e below n1 z1 EN Q T (mkF m pc' L (.long v :: S))) : OF p e below n1 z1 EN Q T (mkF m pc L S) := by
  subst hp; obtain ⟨_, X, _⟩ := W.2.2.2.2; exact OF.step (fun t q => X.ldc2Long W.hx W.hown (mvT W.hZ w) (g := mkF m pc L S) rfl (hb W.by hd) t q) k1
theorem o_iadd {x y : Int32} (W : OW p l e R s m args below meth c Z B ml own nm rt n0 z0 T h kk nn) (hd : decode B pc = .ok (.iadd, 1)) (hp : pc + 1 = pc')
    (k1 : OF p e below n1 z1 EN Q T (mkF m pc' L (.int (x + y) :: S))) : OF p e below n1 z1 EN Q T (mkF m pc L (.int y :: .int x :: S)) := by
  subst hp; exact OF.step (fun t q => XS.iadd W.here W.hx rfl (hb W.by hd) rfl q) k1
theorem o_isub {x y : Int32} (W : OW p l e R s m args below meth c Z B ml own nm rt n0 z0 T h kk nn) (hd : decode B pc = .ok (.isub, 1)) (hp : pc + 1 = pc')
    (k1 : OF p e below n1 z1 EN Q T (mkF m pc' L (.int (x - y) :: S))) : OF p e below n1 z1 EN Q T (mkF m pc L (.int y :: .int x :: S)) := by
  subst hp; exact OF.step (fun t q => XS.isub W.here W.hx rfl (hb W.by hd) rfl q) k1
theorem o_imul {x y : Int32} (W : OW p l e R s m args below meth c Z B ml own nm rt n0 z0 T h kk nn) (hd : decode B pc = .ok (.imul, 1)) (hp : pc + 1 = pc')
    (k1 : OF p e below n1 z1 EN Q T (mkF m pc' L (.int (x * y) :: S))) : OF p e below n1 z1 EN Q T (mkF m pc L (.int y :: .int x :: S)) := by
  subst hp; exact OF.step (fun t q => XS.imul W.here W.hx rfl (hb W.by hd) rfl q) k1
theorem o_iand {x y : Int32} (W : OW p l e R s m args below meth c Z B ml own nm rt n0 z0 T h kk nn) (hd : decode B pc = .ok (.iand, 1)) (hp : pc + 1 = pc')
    (k1 : OF p e below n1 z1 EN Q T (mkF m pc' L (.int (x &&& y) :: S))) : OF p e below n1 z1 EN Q T (mkF m pc L (.int y :: .int x :: S)) := by
  subst hp; exact OF.step (fun t q => XS.iand W.here W.hx rfl (hb W.by hd) rfl q) k1
theorem o_ior {x y : Int32} (W : OW p l e R s m args below meth c Z B ml own nm rt n0 z0 T h kk nn) (hd : decode B pc = .ok (.ior, 1)) (hp : pc + 1 = pc')
    (k1 : OF p e below n1 z1 EN Q T (mkF m pc' L (.int (x ||| y) :: S))) : OF p e below n1 z1 EN Q T (mkF m pc L (.int y :: .int x :: S)) := by
  subst hp; exact OF.step (fun t q => XS.ior W.here W.hx rfl (hb W.by hd) rfl q) k1
theorem o_ixor {x y : Int32} (W : OW p l e R s m args below meth c Z B ml own nm rt n0 z0 T h kk nn) (hd : decode B pc = .ok (.ixor, 1)) (hp : pc + 1 = pc')
    (k1 : OF p e below n1 z1 EN Q T (mkF m pc' L (.int (x ^^^ y) :: S))) : OF p e below n1 z1 EN Q T (mkF m pc L (.int y :: .int x :: S)) := by
  subst hp; exact OF.step (fun t q => XS.ixor W.here W.hx rfl (hb W.by hd) rfl q) k1
theorem o_ishl {x y : Int32} (W : OW p l e R s m args below meth c Z B ml own nm rt n0 z0 T h kk nn) (hd : decode B pc = .ok (.ishl, 1)) (hp : pc + 1 = pc')
    (k1 : OF p e below n1 z1 EN Q T (mkF m pc' L (.int (x <<< (y &&& 31)) :: S))) : OF p e below n1 z1 EN Q T (mkF m pc L (.int y :: .int x :: S)) := by
  subst hp; exact OF.step (fun t q => XS.ishl W.here W.hx rfl (hb W.by hd) rfl q) k1
theorem o_ishr {x y : Int32} (W : OW p l e R s m args below meth c Z B ml own nm rt n0 z0 T h kk nn) (hd : decode B pc = .ok (.ishr, 1)) (hp : pc + 1 = pc')
    (k1 : OF p e below n1 z1 EN Q T (mkF m pc' L (.int (x >>> (y &&& 31)) :: S))) : OF p e below n1 z1 EN Q T (mkF m pc L (.int y :: .int x :: S)) := by
  subst hp; exact OF.step (fun t q => XS.ishr W.here W.hx rfl (hb W.by hd) rfl q) k1
theorem o_iushr {x y : Int32} (W : OW p l e R s m args below meth c Z B ml own nm rt n0 z0 T h kk nn) (hd : decode B pc = .ok (.iushr, 1)) (hp : pc + 1 = pc')
    (k1 : OF p e below n1 z1 EN Q T (mkF m pc' L (.int ((x.toUInt32 >>> (y &&& 31).toUInt32).toInt32) :: S))) : OF p e below n1 z1 EN Q T (mkF m pc L (.int y :: .int x :: S)) := by
  subst hp; exact OF.step (fun t q => XS.iushr W.here W.hx rfl (hb W.by hd) rfl q) k1
theorem o_idiv {x y : Int32} (W : OW p l e R s m args below meth c Z B ml own nm rt n0 z0 T h kk nn) (hd : decode B pc = .ok (.idiv, 1)) (hy : y ≠ 0) (hp : pc + 1 = pc')
    (k1 : OF p e below n1 z1 EN Q T (mkF m pc' L (.int (x / y) :: S))) : OF p e below n1 z1 EN Q T (mkF m pc L (.int y :: .int x :: S)) := by
  subst hp; exact OF.step (fun t q => XS.idiv W.here W.hx rfl (hb W.by hd) rfl hy q) k1
theorem o_irem {x y : Int32} (W : OW p l e R s m args below meth c Z B ml own nm rt n0 z0 T h kk nn) (hd : decode B pc = .ok (.irem, 1)) (hy : y ≠ 0) (hp : pc + 1 = pc')
    (k1 : OF p e below n1 z1 EN Q T (mkF m pc' L (.int (x - (x / y) * y) :: S))) : OF p e below n1 z1 EN Q T (mkF m pc L (.int y :: .int x :: S)) := by
  subst hp; exact OF.step (fun t q => XS.irem W.here W.hx rfl (hb W.by hd) rfl hy q) k1
theorem o_ladd {x y : Int64} (W : OW p l e R s m args below meth c Z B ml own nm rt n0 z0 T h kk nn) (hd : decode B pc = .ok (.ladd, 1)) (hp : pc + 1 = pc')
    (k1 : OF p e below n1 z1 EN Q T (mkF m pc' L (.long (x + y) :: S))) : OF p e below n1 z1 EN Q T (mkF m pc L (.long y :: .long x :: S)) := by
  subst hp; exact OF.step (fun t q => XS.ladd W.here W.hx rfl (hb W.by hd) rfl q) k1
theorem o_lsub {x y : Int64} (W : OW p l e R s m args below meth c Z B ml own nm rt n0 z0 T h kk nn) (hd : decode B pc = .ok (.lsub, 1)) (hp : pc + 1 = pc')
    (k1 : OF p e below n1 z1 EN Q T (mkF m pc' L (.long (x - y) :: S))) : OF p e below n1 z1 EN Q T (mkF m pc L (.long y :: .long x :: S)) := by
  subst hp; exact OF.step (fun t q => XS.lsub W.here W.hx rfl (hb W.by hd) rfl q) k1
theorem o_lmul {x y : Int64} (W : OW p l e R s m args below meth c Z B ml own nm rt n0 z0 T h kk nn) (hd : decode B pc = .ok (.lmul, 1)) (hp : pc + 1 = pc')
    (k1 : OF p e below n1 z1 EN Q T (mkF m pc' L (.long (x * y) :: S))) : OF p e below n1 z1 EN Q T (mkF m pc L (.long y :: .long x :: S)) := by
  subst hp; exact OF.step (fun t q => XS.lmul W.here W.hx rfl (hb W.by hd) rfl q) k1
theorem o_land {x y : Int64} (W : OW p l e R s m args below meth c Z B ml own nm rt n0 z0 T h kk nn) (hd : decode B pc = .ok (.land, 1)) (hp : pc + 1 = pc')
    (k1 : OF p e below n1 z1 EN Q T (mkF m pc' L (.long (x &&& y) :: S))) : OF p e below n1 z1 EN Q T (mkF m pc L (.long y :: .long x :: S)) := by
  subst hp; exact OF.step (fun t q => XS.land W.here W.hx rfl (hb W.by hd) rfl q) k1
theorem o_lor {x y : Int64} (W : OW p l e R s m args below meth c Z B ml own nm rt n0 z0 T h kk nn) (hd : decode B pc = .ok (.lor, 1)) (hp : pc + 1 = pc')
    (k1 : OF p e below n1 z1 EN Q T (mkF m pc' L (.long (x ||| y) :: S))) : OF p e below n1 z1 EN Q T (mkF m pc L (.long y :: .long x :: S)) := by
  subst hp; exact OF.step (fun t q => XS.lor W.here W.hx rfl (hb W.by hd) rfl q) k1
theorem o_lxor {x y : Int64} (W : OW p l e R s m args below meth c Z B ml own nm rt n0 z0 T h kk nn) (hd : decode B pc = .ok (.lxor, 1)) (hp : pc + 1 = pc')
    (k1 : OF p e below n1 z1 EN Q T (mkF m pc' L (.long (x ^^^ y) :: S))) : OF p e below n1 z1 EN Q T (mkF m pc L (.long y :: .long x :: S)) := by
  subst hp; exact OF.step (fun t q => XS.lxor W.here W.hx rfl (hb W.by hd) rfl q) k1
theorem o_ldiv {x y : Int64} (W : OW p l e R s m args below meth c Z B ml own nm rt n0 z0 T h kk nn) (hd : decode B pc = .ok (.ldiv, 1)) (hy : y ≠ 0) (hp : pc + 1 = pc')
    (k1 : OF p e below n1 z1 EN Q T (mkF m pc' L (.long (x / y) :: S))) : OF p e below n1 z1 EN Q T (mkF m pc L (.long y :: .long x :: S)) := by
  subst hp; exact OF.step (fun t q => XS.ldiv W.here W.hx rfl (hb W.by hd) rfl hy q) k1
theorem o_lrem {x y : Int64} (W : OW p l e R s m args below meth c Z B ml own nm rt n0 z0 T h kk nn) (hd : decode B pc = .ok (.lrem, 1)) (hy : y ≠ 0) (hp : pc + 1 = pc')
    (k1 : OF p e below n1 z1 EN Q T (mkF m pc' L (.long (x - (x / y) * y) :: S))) : OF p e below n1 z1 EN Q T (mkF m pc L (.long y :: .long x :: S)) := by
  subst hp; exact OF.step (fun t q => XS.lrem W.here W.hx rfl (hb W.by hd) rfl hy q) k1
theorem o_lshl {x : Int64} {y : Int32} (W : OW p l e R s m args below meth c Z B ml own nm rt n0 z0 T h kk nn) (hd : decode B pc = .ok (.lshl, 1)) (hp : pc + 1 = pc')
    (k1 : OF p e below n1 z1 EN Q T (mkF m pc' L (.long (x <<< (y &&& 0x3f).toInt64) :: S))) : OF p e below n1 z1 EN Q T (mkF m pc L (.int y :: .long x :: S)) := by
  subst hp; exact OF.step (fun t q => XS.lshl W.here W.hx rfl (hb W.by hd) rfl q) k1
theorem o_lshr {x : Int64} {y : Int32} (W : OW p l e R s m args below meth c Z B ml own nm rt n0 z0 T h kk nn) (hd : decode B pc = .ok (.lshr, 1)) (hp : pc + 1 = pc')
    (k1 : OF p e below n1 z1 EN Q T (mkF m pc' L (.long (x >>> (y &&& 0x3f).toInt64) :: S))) : OF p e below n1 z1 EN Q T (mkF m pc L (.int y :: .long x :: S)) := by
  subst hp; exact OF.step (fun t q => XS.lshr W.here W.hx rfl (hb W.by hd) rfl q) k1
theorem o_lushr {x : Int64} {y : Int32} (W : OW p l e R s m args below meth c Z B ml own nm rt n0 z0 T h kk nn) (hd : decode B pc = .ok (.lushr, 1)) (hp : pc + 1 = pc')
    (k1 : OF p e below n1 z1 EN Q T (mkF m pc' L (.long ((x.toUInt64 >>> (y &&& 0x3f).toInt64.toUInt64).toInt64) :: S))) : OF p e below n1 z1 EN Q T (mkF m pc L (.int y :: .long x :: S)) := by
  subst hp; exact OF.step (fun t q => XS.lushr W.here W.hx rfl (hb W.by hd) rfl q) k1
theorem o_i2b {x : Int32} (W : OW p l e R s m args below meth c Z B ml own nm rt n0 z0 T h kk nn) (hd : decode B pc = .ok (.i2b, 1)) (hp : pc + 1 = pc')
    (k1 : OF p e below n1 z1 EN Q T (mkF m pc' L (.int (x.toInt8.toInt32) :: S))) : OF p e below n1 z1 EN Q T (mkF m pc L (.int x :: S)) := by
  subst hp; exact OF.step (fun t q => XS.i2b W.here W.hx rfl (hb W.by hd) rfl q) k1
theorem o_i2c {x : Int32} (W : OW p l e R s m args below meth c Z B ml own nm rt n0 z0 T h kk nn) (hd : decode B pc = .ok (.i2c, 1)) (hp : pc + 1 = pc')
    (k1 : OF p e below n1 z1 EN Q T (mkF m pc' L (.int (x.toUInt32.toUInt16.toUInt32.toInt32) :: S))) : OF p e below n1 z1 EN Q T (mkF m pc L (.int x :: S)) := by
  subst hp; exact OF.step (fun t q => XS.i2c W.here W.hx rfl (hb W.by hd) rfl q) k1
theorem o_i2s {x : Int32} (W : OW p l e R s m args below meth c Z B ml own nm rt n0 z0 T h kk nn) (hd : decode B pc = .ok (.i2s, 1)) (hp : pc + 1 = pc')
    (k1 : OF p e below n1 z1 EN Q T (mkF m pc' L (.int (x.toInt16.toInt32) :: S))) : OF p e below n1 z1 EN Q T (mkF m pc L (.int x :: S)) := by
  subst hp; exact OF.step (fun t q => XS.i2s W.here W.hx rfl (hb W.by hd) rfl q) k1
theorem o_i2l {x : Int32} (W : OW p l e R s m args below meth c Z B ml own nm rt n0 z0 T h kk nn) (hd : decode B pc = .ok (.i2l, 1)) (hp : pc + 1 = pc')
    (k1 : OF p e below n1 z1 EN Q T (mkF m pc' L (.long (x.toInt64) :: S))) : OF p e below n1 z1 EN Q T (mkF m pc L (.int x :: S)) := by
  subst hp; exact OF.step (fun t q => XS.i2l W.here W.hx rfl (hb W.by hd) rfl q) k1
theorem o_l2i {x : Int64} (W : OW p l e R s m args below meth c Z B ml own nm rt n0 z0 T h kk nn) (hd : decode B pc = .ok (.l2i, 1)) (hp : pc + 1 = pc')
    (k1 : OF p e below n1 z1 EN Q T (mkF m pc' L (.int (x.toInt32) :: S))) : OF p e below n1 z1 EN Q T (mkF m pc L (.long x :: S)) := by
  subst hp; exact OF.step (fun t q => XS.l2i W.here W.hx rfl (hb W.by hd) rfl q) k1
theorem o_dup {x : Value} (W : OW p l e R s m args below meth c Z B ml own nm rt n0 z0 T h kk nn) (hd : decode B pc = .ok (.dup, 1)) (hc : x.category = 1) (hp : pc + 1 = pc')
    (k1 : OF p e below n1 z1 EN Q T (mkF m pc' L (x :: x :: S))) : OF p e below n1 z1 EN Q T (mkF m pc L (x :: S)) := by
  subst hp; exact OF.step (fun t q => XS.dup W.here W.hx rfl (hb W.by hd) rfl hc q) k1
theorem o_pop {x : Value} (W : OW p l e R s m args below meth c Z B ml own nm rt n0 z0 T h kk nn) (hd : decode B pc = .ok (.pop, 1)) (hc : x.category = 1) (hp : pc + 1 = pc')
    (k1 : OF p e below n1 z1 EN Q T (mkF m pc' L S)) : OF p e below n1 z1 EN Q T (mkF m pc L (x :: S)) := by
  subst hp; exact OF.step (fun t q => XS.pop W.here W.hx rfl (hb W.by hd) rfl hc q) k1
theorem o_dup2 {x y : Value} (W : OW p l e R s m args below meth c Z B ml own nm rt n0 z0 T h kk nn) (hd : decode B pc = .ok (.dup2, 1)) (hc : x.category = 1) (hc' : y.category = 1) (hp : pc + 1 = pc')
    (k1 : OF p e below n1 z1 EN Q T (mkF m pc' L (x :: y :: x :: y :: S))) : OF p e below n1 z1 EN Q T (mkF m pc L (x :: y :: S)) := by
  subst hp; exact OF.step (fun t q => XT.dup2 W.here W.hx rfl (hb W.by hd) rfl hc hc' q) k1
theorem o_iinc {i : Nat} {z : Int} {x : Int32} (W : OW p l e R s m args below meth c Z B ml own nm rt n0 z0 T h kk nn) (hd : decode B pc = .ok (.iinc i z, 3)) (hl : L[i]? = some (.val (.int x))) (hl' : storeLocals L i (.int (x + Int32.ofInt z)) = some L') (hp : pc + 3 = pc')
    (k1 : OF p e below n1 z1 EN Q T (mkF m pc' L' S)) : OF p e below n1 z1 EN Q T (mkF m pc L S) := by
  subst hp; exact OF.step (fun t q => XS.iinc W.here W.hx rfl (hb W.by hd) hl hl' q) k1
theorem o_goto {o : Int} (W : OW p l e R s m args below meth c Z B ml own nm rt n0 z0 T h kk nn) (hd : decode B pc = .ok (.goto o, 3)) (ho : 0 ≤ (pc : Int) + o) (hq : ((pc : Int) + o).toNat = pq)
    (k1 : OF p e below n1 z1 EN Q T (mkF m pq L S)) : OF p e below n1 z1 EN Q T (mkF m pc L S) := OF.step (fun t q => XS.goto W.here W.hx rfl rfl (hb W.by hd) ho hq q) k1
theorem o_lt {x y : Int32} (q : x.toInt < y.toInt) : x < y := Int32.lt_iff_toInt_lt.mpr q
theorem o_nlt {x y : Int32} (q : y.toInt ≤ x.toInt) : ¬ x < y := fun z => by rw [Int32.lt_iff_toInt_lt] at z; omega
theorem o_eq {x y : Int32} (q : x.toInt = y.toInt) : x = y := Int32.toInt_inj.mp q
theorem o_ne {x y : Int32} (q : ¬ x.toInt = y.toInt) : ¬ x = y := fun z => q (congrArg Int32.toInt z)
theorem o_zero : (0 : Int32).toInt = 0 := rfl
theorem o_llt {x y : Int64} (q : x.toInt < y.toInt) : x < y := Int64.lt_iff_toInt_lt.mpr q
theorem o_nllt {x y : Int64} (q : y.toInt ≤ x.toInt) : ¬ x < y := fun z => by rw [Int64.lt_iff_toInt_lt] at z; omega
theorem o_leq {x y : Int64} (q : x.toInt = y.toInt) : x = y := Int64.toInt_inj.mp q
theorem o_lne {x y : Int64} (q : ¬ x.toInt = y.toInt) : ¬ x = y := fun z => q (congrArg Int64.toInt z)
theorem o_icmp_lt {x y : Int32} {o : Int} (W : OW p l e R s m args below meth c Z B ml own nm rt n0 z0 T h kk nn) (hd : decode B pc = .ok (.if_icmp .lt o, 3)) (ho : 0 ≤ (pc : Int) + o) (hq : ((pc : Int) + o).toNat = pq) (hp : pc + 3 = pc')
    (ky : x.toInt < y.toInt → OF p e below n1 z1 EN Q T (mkF m pq L S)) (kn : y.toInt ≤ x.toInt → OF p e below n1 z1 EN Q T (mkF m pc' L S)) : OF p e below n1 z1 EN Q T (mkF m pc L (.int y :: .int x :: S)) := by
  subst hp
  rcases Int.lt_or_le (x.toInt) (y.toInt) with q | q
  · exact OF.step (fun t z => XS.icmpYes W.here W.hx rfl rfl (hb W.by hd) rfl (tlt (o_lt q)).1 ho hq z) (ky q)
  · exact OF.step (fun t z => XS.icmpNo W.here W.hx rfl (hb W.by hd) rfl (flt (o_nlt q)).1 z) (kn q)
theorem o_icmp_ge {x y : Int32} {o : Int} (W : OW p l e R s m args below meth c Z B ml own nm rt n0 z0 T h kk nn) (hd : decode B pc = .ok (.if_icmp .ge o, 3)) (ho : 0 ≤ (pc : Int) + o) (hq : ((pc : Int) + o).toNat = pq) (hp : pc + 3 = pc')
    (ky : y.toInt ≤ x.toInt → OF p e below n1 z1 EN Q T (mkF m pq L S)) (kn : x.toInt < y.toInt → OF p e below n1 z1 EN Q T (mkF m pc' L S)) : OF p e below n1 z1 EN Q T (mkF m pc L (.int y :: .int x :: S)) := by
  subst hp
  rcases (Int.lt_or_le (x.toInt) (y.toInt)).symm with q | q
  · exact OF.step (fun t z => XS.icmpYes W.here W.hx rfl rfl (hb W.by hd) rfl (flt (o_nlt q)).2.1 ho hq z) (ky q)
  · exact OF.step (fun t z => XS.icmpNo W.here W.hx rfl (hb W.by hd) rfl (tlt (o_lt q)).2.1 z) (kn q)
theorem o_icmp_gt {x y : Int32} {o : Int} (W : OW p l e R s m args below meth c Z B ml own nm rt n0 z0 T h kk nn) (hd : decode B pc = .ok (.if_icmp .gt o, 3)) (ho : 0 ≤ (pc : Int) + o) (hq : ((pc : Int) + o).toNat = pq) (hp : pc + 3 = pc')
    (ky : y.toInt < x.toInt → OF p e below n1 z1 EN Q T (mkF m pq L S)) (kn : x.toInt ≤ y.toInt → OF p e below n1 z1 EN Q T (mkF m pc' L S)) : OF p e below n1 z1 EN Q T (mkF m pc L (.int y :: .int x :: S)) := by
  subst hp
  rcases Int.lt_or_le (y.toInt) (x.toInt) with q | q
  · exact OF.step (fun t z => XS.icmpYes W.here W.hx rfl rfl (hb W.by hd) rfl (tlt (o_lt q)).2.2.1 ho hq z) (ky q)
  · exact OF.step (fun t z => XS.icmpNo W.here W.hx rfl (hb W.by hd) rfl (flt (o_nlt q)).2.2.1 z) (kn q)
theorem o_icmp_le {x y : Int32} {o : Int} (W : OW p l e R s m args below meth c Z B ml own nm rt n0 z0 T h kk nn) (hd : decode B pc = .ok (.if_icmp .le o, 3)) (ho : 0 ≤ (pc : Int) + o) (hq : ((pc : Int) + o).toNat = pq) (hp : pc + 3 = pc')
    (ky : x.toInt ≤ y.toInt → OF p e below n1 z1 EN Q T (mkF m pq L S)) (kn : y.toInt < x.toInt → OF p e below n1 z1 EN Q T (mkF m pc' L S)) : OF p e below n1 z1 EN Q T (mkF m pc L (.int y :: .int x :: S)) := by
  subst hp
  rcases (Int.lt_or_le (y.toInt) (x.toInt)).symm with q | q
  · exact OF.step (fun t z => XS.icmpYes W.here W.hx rfl rfl (hb W.by hd) rfl (flt (o_nlt q)).2.2.2 ho hq z) (ky q)
  · exact OF.step (fun t z => XS.icmpNo W.here W.hx rfl (hb W.by hd) rfl (tlt (o_lt q)).2.2.2 z) (kn q)
theorem o_icmp_eq {x y : Int32} {o : Int} (W : OW p l e R s m args below meth c Z B ml own nm rt n0 z0 T h kk nn) (hd : decode B pc = .ok (.if_icmp .eq o, 3)) (ho : 0 ≤ (pc : Int) + o) (hq : ((pc : Int) + o).toNat = pq) (hp : pc + 3 = pc')
    (ky : x.toInt = y.toInt → OF p e below n1 z1 EN Q T (mkF m pq L S)) (kn : ¬ x.toInt = y.toInt → OF p e below n1 z1 EN Q T (mkF m pc' L S)) : OF p e below n1 z1 EN Q T (mkF m pc L (.int y :: .int x :: S)) := by
  subst hp
  rcases Decidable.em (x.toInt = y.toInt) with q | q
  · exact OF.step (fun t z => XS.icmpYes W.here W.hx rfl rfl (hb W.by hd) rfl (teq (o_eq q)).1 ho hq z) (ky q)
  · exact OF.step (fun t z => XS.icmpNo W.here W.hx rfl (hb W.by hd) rfl (feq (o_ne q)).1 z) (kn q)
theorem o_icmp_ne {x y : Int32} {o : Int} (W : OW p l e R s m args below meth c Z B ml own nm rt n0 z0 T h kk nn) (hd : decode B pc = .ok (.if_icmp .ne o, 3)) (ho : 0 ≤ (pc : Int) + o) (hq : ((pc : Int) + o).toNat = pq) (hp : pc + 3 = pc')
    (ky : ¬ x.toInt = y.toInt → OF p e below n1 z1 EN Q T (mkF m pq L S)) (kn : x.toInt = y.toInt → OF p e below n1 z1 EN Q T (mkF m pc' L S)) : OF p e below n1 z1 EN Q T (mkF m pc L (.int y :: .int x :: S)) := by
  subst hp
  rcases (Decidable.em (x.toInt = y.toInt)).symm with q | q
  · exact OF.step (fun t z => XS.icmpYes W.here W.hx rfl rfl (hb W.by hd) rfl (feq (o_ne q)).2 ho hq z) (ky q)
  · exact OF.step (fun t z => XS.icmpNo W.here W.hx rfl (hb W.by hd) rfl (teq (o_eq q)).2 z) (kn q)
theorem o_if_lt {x : Int32} {o : Int} (W : OW p l e R s m args below meth c Z B ml own nm rt n0 z0 T h kk nn) (hd : decode B pc = .ok (.ifCond .lt o, 3)) (ho : 0 ≤ (pc : Int) + o) (hq : ((pc : Int) + o).toNat = pq) (hp : pc + 3 = pc')
    (ky : x.toInt < 0 → OF p e below n1 z1 EN Q T (mkF m pq L S)) (kn : 0 ≤ x.toInt → OF p e below n1 z1 EN Q T (mkF m pc' L S)) : OF p e below n1 z1 EN Q T (mkF m pc L (.int x :: S)) := by
  subst hp
  rcases Int.lt_or_le (x.toInt) (0) with q | q
  · exact OF.step (fun t z => XS.ifYes W.here W.hx rfl rfl (hb W.by hd) rfl ((if0 _ _).trans (tlt (o_lt (x := x) (y := 0) q)).1) ho hq z) (ky q)
  · exact OF.step (fun t z => XS.ifNo W.here W.hx rfl (hb W.by hd) rfl ((if0 _ _).trans (flt (o_nlt (x := x) (y := 0) q)).1) z) (kn q)
theorem o_if_ge {x : Int32} {o : Int} (W : OW p l e R s m args below meth c Z B ml own nm rt n0 z0 T h kk nn) (hd : decode B pc = .ok (.ifCond .ge o, 3)) (ho : 0 ≤ (pc : Int) + o) (hq : ((pc : Int) + o).toNat = pq) (hp : pc + 3 = pc')
    (ky : 0 ≤ x.toInt → OF p e below n1 z1 EN Q T (mkF m pq L S)) (kn : x.toInt < 0 → OF p e below n1 z1 EN Q T (mkF m pc' L S)) : OF p e below n1 z1 EN Q T (mkF m pc L (.int x :: S)) := by
  subst hp
  rcases (Int.lt_or_le (x.toInt) (0)).symm with q | q
  · exact OF.step (fun t z => XS.ifYes W.here W.hx rfl rfl (hb W.by hd) rfl ((if0 _ _).trans (flt (o_nlt (x := x) (y := 0) q)).2.1) ho hq z) (ky q)
  · exact OF.step (fun t z => XS.ifNo W.here W.hx rfl (hb W.by hd) rfl ((if0 _ _).trans (tlt (o_lt (x := x) (y := 0) q)).2.1) z) (kn q)
theorem o_if_gt {x : Int32} {o : Int} (W : OW p l e R s m args below meth c Z B ml own nm rt n0 z0 T h kk nn) (hd : decode B pc = .ok (.ifCond .gt o, 3)) (ho : 0 ≤ (pc : Int) + o) (hq : ((pc : Int) + o).toNat = pq) (hp : pc + 3 = pc')
    (ky : 0 < x.toInt → OF p e below n1 z1 EN Q T (mkF m pq L S)) (kn : x.toInt ≤ 0 → OF p e below n1 z1 EN Q T (mkF m pc' L S)) : OF p e below n1 z1 EN Q T (mkF m pc L (.int x :: S)) := by
  subst hp
  rcases Int.lt_or_le (0) (x.toInt) with q | q
  · exact OF.step (fun t z => XS.ifYes W.here W.hx rfl rfl (hb W.by hd) rfl ((if0 _ _).trans (tlt (o_lt (x := 0) (y := x) q)).2.2.1) ho hq z) (ky q)
  · exact OF.step (fun t z => XS.ifNo W.here W.hx rfl (hb W.by hd) rfl ((if0 _ _).trans (flt (o_nlt (x := 0) (y := x) q)).2.2.1) z) (kn q)
theorem o_if_le {x : Int32} {o : Int} (W : OW p l e R s m args below meth c Z B ml own nm rt n0 z0 T h kk nn) (hd : decode B pc = .ok (.ifCond .le o, 3)) (ho : 0 ≤ (pc : Int) + o) (hq : ((pc : Int) + o).toNat = pq) (hp : pc + 3 = pc')
    (ky : x.toInt ≤ 0 → OF p e below n1 z1 EN Q T (mkF m pq L S)) (kn : 0 < x.toInt → OF p e below n1 z1 EN Q T (mkF m pc' L S)) : OF p e below n1 z1 EN Q T (mkF m pc L (.int x :: S)) := by
  subst hp
  rcases (Int.lt_or_le (0) (x.toInt)).symm with q | q
  · exact OF.step (fun t z => XS.ifYes W.here W.hx rfl rfl (hb W.by hd) rfl ((if0 _ _).trans (flt (o_nlt (x := 0) (y := x) q)).2.2.2) ho hq z) (ky q)
  · exact OF.step (fun t z => XS.ifNo W.here W.hx rfl (hb W.by hd) rfl ((if0 _ _).trans (tlt (o_lt (x := 0) (y := x) q)).2.2.2) z) (kn q)
theorem o_if_eq {x : Int32} {o : Int} (W : OW p l e R s m args below meth c Z B ml own nm rt n0 z0 T h kk nn) (hd : decode B pc = .ok (.ifCond .eq o, 3)) (ho : 0 ≤ (pc : Int) + o) (hq : ((pc : Int) + o).toNat = pq) (hp : pc + 3 = pc')
    (ky : x.toInt = 0 → OF p e below n1 z1 EN Q T (mkF m pq L S)) (kn : ¬ x.toInt = 0 → OF p e below n1 z1 EN Q T (mkF m pc' L S)) : OF p e below n1 z1 EN Q T (mkF m pc L (.int x :: S)) := by
  subst hp
  rcases Decidable.em (x.toInt = 0) with q | q
  · exact OF.step (fun t z => XS.ifYes W.here W.hx rfl rfl (hb W.by hd) rfl ((if0 _ _).trans (teq (o_eq (x := x) (y := 0) q)).1) ho hq z) (ky q)
  · exact OF.step (fun t z => XS.ifNo W.here W.hx rfl (hb W.by hd) rfl ((if0 _ _).trans (feq (o_ne (x := x) (y := 0) q)).1) z) (kn q)
theorem o_if_ne {x : Int32} {o : Int} (W : OW p l e R s m args below meth c Z B ml own nm rt n0 z0 T h kk nn) (hd : decode B pc = .ok (.ifCond .ne o, 3)) (ho : 0 ≤ (pc : Int) + o) (hq : ((pc : Int) + o).toNat = pq) (hp : pc + 3 = pc')
    (ky : ¬ x.toInt = 0 → OF p e below n1 z1 EN Q T (mkF m pq L S)) (kn : x.toInt = 0 → OF p e below n1 z1 EN Q T (mkF m pc' L S)) : OF p e below n1 z1 EN Q T (mkF m pc L (.int x :: S)) := by
  subst hp
  rcases (Decidable.em (x.toInt = 0)).symm with q | q
  · exact OF.step (fun t z => XS.ifYes W.here W.hx rfl rfl (hb W.by hd) rfl ((if0 _ _).trans (feq (o_ne (x := x) (y := 0) q)).2) ho hq z) (ky q)
  · exact OF.step (fun t z => XS.ifNo W.here W.hx rfl (hb W.by hd) rfl ((if0 _ _).trans (teq (o_eq (x := x) (y := 0) q)).2) z) (kn q)
theorem o_lcmp_lt {x y : Int64} {o : Int} {pc1 : Nat} (W : OW p l e R s m args below meth c Z B ml own nm rt n0 z0 T h kk nn) (hd : decode B pc = .ok (.lcmp, 1)) (h1 : pc + 1 = pc1) (hd2 : decode B pc1 = .ok (.ifCond .lt o, 3)) (ho : 0 ≤ (pc1 : Int) + o) (hq : ((pc1 : Int) + o).toNat = pq) (hp : pc1 + 3 = pc')
    (ky : x.toInt < y.toInt → OF p e below n1 z1 EN Q T (mkF m pq L S)) (kn : y.toInt ≤ x.toInt → OF p e below n1 z1 EN Q T (mkF m pc' L S)) : OF p e below n1 z1 EN Q T (mkF m pc L (.long y :: .long x :: S)) := by
  subst h1; subst hp
  refine OF.step (T' := T) (f' := mkF m (pc + 1) L (.int (lcmpW x y) :: S)) (fun t z => XS.lcmp W.here W.hx rfl (hb W.by hd) rfl z) ?_
  rcases Int.lt_or_le (x.toInt) (y.toInt) with q | q
  · exact OF.step (fun t z => XS.ifYes W.here W.hx rfl rfl (hb W.by hd2) rfl ((if0 _ _).trans (tlt ((lw_lt x y).mpr (o_llt q))).1) ho hq z) (ky q)
  · exact OF.step (fun t z => XS.ifNo W.here W.hx rfl (hb W.by hd2) rfl ((if0 _ _).trans (flt (fun z => o_nllt q ((lw_lt x y).mp z))).1) z) (kn q)
theorem o_lcmp_ge {x y : Int64} {o : Int} {pc1 : Nat} (W : OW p l e R s m args below meth c Z B ml own nm rt n0 z0 T h kk nn) (hd : decode B pc = .ok (.lcmp, 1)) (h1 : pc + 1 = pc1) (hd2 : decode B pc1 = .ok (.ifCond .ge o, 3)) (ho : 0 ≤ (pc1 : Int) + o) (hq : ((pc1 : Int) + o).toNat = pq) (hp : pc1 + 3 = pc')
    (ky : y.toInt ≤ x.toInt → OF p e below n1 z1 EN Q T (mkF m pq L S)) (kn : x.toInt < y.toInt → OF p e below n1 z1 EN Q T (mkF m pc' L S)) : OF p e below n1 z1 EN Q T (mkF m pc L (.long y :: .long x :: S)) := by
  subst h1; subst hp
  refine OF.step (T' := T) (f' := mkF m (pc + 1) L (.int (lcmpW x y) :: S)) (fun t z => XS.lcmp W.here W.hx rfl (hb W.by hd) rfl z) ?_
  rcases (Int.lt_or_le (x.toInt) (y.toInt)).symm with q | q
  · exact OF.step (fun t z => XS.ifYes W.here W.hx rfl rfl (hb W.by hd2) rfl ((if0 _ _).trans (flt (fun z => o_nllt q ((lw_lt x y).mp z))).2.1) ho hq z) (ky q)
  · exact OF.step (fun t z => XS.ifNo W.here W.hx rfl (hb W.by hd2) rfl ((if0 _ _).trans (tlt ((lw_lt x y).mpr (o_llt q))).2.1) z) (kn q)
theorem o_lcmp_gt {x y : Int64} {o : Int} {pc1 : Nat} (W : OW p l e R s m args below meth c Z B ml own nm rt n0 z0 T h kk nn) (hd : decode B pc = .ok (.lcmp, 1)) (h1 : pc + 1 = pc1) (hd2 : decode B pc1 = .ok (.ifCond .gt o, 3)) (ho : 0 ≤ (pc1 : Int) + o) (hq : ((pc1 : Int) + o).toNat = pq) (hp : pc1 + 3 = pc')
    (ky : y.toInt < x.toInt → OF p e below n1 z1 EN Q T (mkF m pq L S)) (kn : x.toInt ≤ y.toInt → OF p e below n1 z1 EN Q T (mkF m pc' L S)) : OF p e below n1 z1 EN Q T (mkF m pc L (.long y :: .long x :: S)) := by
  subst h1; subst hp
  refine OF.step (T' := T) (f' := mkF m (pc + 1) L (.int (lcmpW x y) :: S)) (fun t z => XS.lcmp W.here W.hx rfl (hb W.by hd) rfl z) ?_
  rcases Int.lt_or_le (y.toInt) (x.toInt) with q | q
  · exact OF.step (fun t z => XS.ifYes W.here W.hx rfl rfl (hb W.by hd2) rfl ((if0 _ _).trans (tlt ((lw_gt x y).mpr (o_llt q))).2.2.1) ho hq z) (ky q)
  · exact OF.step (fun t z => XS.ifNo W.here W.hx rfl (hb W.by hd2) rfl ((if0 _ _).trans (flt (fun z => o_nllt q ((lw_gt x y).mp z))).2.2.1) z) (kn q)
theorem o_lcmp_le {x y : Int64} {o : Int} {pc1 : Nat} (W : OW p l e R s m args below meth c Z B ml own nm rt n0 z0 T h kk nn) (hd : decode B pc = .ok (.lcmp, 1)) (h1 : pc + 1 = pc1) (hd2 : decode B pc1 = .ok (.ifCond .le o, 3)) (ho : 0 ≤ (pc1 : Int) + o) (hq : ((pc1 : Int) + o).toNat = pq) (hp : pc1 + 3 = pc')
    (ky : x.toInt ≤ y.toInt → OF p e below n1 z1 EN Q T (mkF m pq L S)) (kn : y.toInt < x.toInt → OF p e below n1 z1 EN Q T (mkF m pc' L S)) : OF p e below n1 z1 EN Q T (mkF m pc L (.long y :: .long x :: S)) := by
  subst h1; subst hp
  refine OF.step (T' := T) (f' := mkF m (pc + 1) L (.int (lcmpW x y) :: S)) (fun t z => XS.lcmp W.here W.hx rfl (hb W.by hd) rfl z) ?_
  rcases (Int.lt_or_le (y.toInt) (x.toInt)).symm with q | q
  · exact OF.step (fun t z => XS.ifYes W.here W.hx rfl rfl (hb W.by hd2) rfl ((if0 _ _).trans (flt (fun z => o_nllt q ((lw_gt x y).mp z))).2.2.2) ho hq z) (ky q)
  · exact OF.step (fun t z => XS.ifNo W.here W.hx rfl (hb W.by hd2) rfl ((if0 _ _).trans (tlt ((lw_gt x y).mpr (o_llt q))).2.2.2) z) (kn q)
theorem o_lcmp_eq {x y : Int64} {o : Int} {pc1 : Nat} (W : OW p l e R s m args below meth c Z B ml own nm rt n0 z0 T h kk nn) (hd : decode B pc = .ok (.lcmp, 1)) (h1 : pc + 1 = pc1) (hd2 : decode B pc1 = .ok (.ifCond .eq o, 3)) (ho : 0 ≤ (pc1 : Int) + o) (hq : ((pc1 : Int) + o).toNat = pq) (hp : pc1 + 3 = pc')
    (ky : x.toInt = y.toInt → OF p e below n1 z1 EN Q T (mkF m pq L S)) (kn : ¬ x.toInt = y.toInt → OF p e below n1 z1 EN Q T (mkF m pc' L S)) : OF p e below n1 z1 EN Q T (mkF m pc L (.long y :: .long x :: S)) := by
  subst h1; subst hp
  refine OF.step (T' := T) (f' := mkF m (pc + 1) L (.int (lcmpW x y) :: S)) (fun t z => XS.lcmp W.here W.hx rfl (hb W.by hd) rfl z) ?_
  rcases Decidable.em (x.toInt = y.toInt) with q | q
  · exact OF.step (fun t z => XS.ifYes W.here W.hx rfl rfl (hb W.by hd2) rfl ((if0 _ _).trans (teq ((lw_eq x y).mpr (o_leq q))).1) ho hq z) (ky q)
  · exact OF.step (fun t z => XS.ifNo W.here W.hx rfl (hb W.by hd2) rfl ((if0 _ _).trans (feq (fun z => o_lne q ((lw_eq x y).mp z))).1) z) (kn q)
theorem o_lcmp_ne {x y : Int64} {o : Int} {pc1 : Nat} (W : OW p l e R s m args below meth c Z B ml own nm rt n0 z0 T h kk nn) (hd : decode B pc = .ok (.lcmp, 1)) (h1 : pc + 1 = pc1) (hd2 : decode B pc1 = .ok (.ifCond .ne o, 3)) (ho : 0 ≤ (pc1 : Int) + o) (hq : ((pc1 : Int) + o).toNat = pq) (hp : pc1 + 3 = pc')
    (ky : ¬ x.toInt = y.toInt → OF p e below n1 z1 EN Q T (mkF m pq L S)) (kn : x.toInt = y.toInt → OF p e below n1 z1 EN Q T (mkF m pc' L S)) : OF p e below n1 z1 EN Q T (mkF m pc L (.long y :: .long x :: S)) := by
  subst h1; subst hp
  refine OF.step (T' := T) (f' := mkF m (pc + 1) L (.int (lcmpW x y) :: S)) (fun t z => XS.lcmp W.here W.hx rfl (hb W.by hd) rfl z) ?_
  rcases (Decidable.em (x.toInt = y.toInt)).symm with q | q
  · exact OF.step (fun t z => XS.ifYes W.here W.hx rfl rfl (hb W.by hd2) rfl ((if0 _ _).trans (feq (fun z => o_lne q ((lw_eq x y).mp z))).2) ho hq z) (ky q)
  · exact OF.step (fun t z => XS.ifNo W.here W.hx rfl (hb W.by hd2) rfl ((if0 _ _).trans (teq ((lw_eq x y).mpr (o_leq q))).2) z) (kn q)
abbrev QI (P : Int32 → Heap → Prop) : Option Value → Heap → Prop := fun v h => ∃ r, v = some (.int r) ∧ P r h
abbrev QJ (P : Int64 → Heap → Prop) : Option Value → Heap → Prop := fun v h => ∃ r, v = some (.long r) ∧ P r h
abbrev QA (P : Addr → Heap → Prop) : Option Value → Heap → Prop := fun v h => ∃ r, v = some (.ref r) ∧ P r h
abbrev QV (P : Heap → Prop) : Option Value → Heap → Prop := fun v h => v = none ∧ P h
theorem o_retN {t : FieldType} {z : Int32} (W : OW p l e R s m args below meth c Z B ml own nm rt n0 z0 T h kk nn) (hrt : rt = some t) (ht : t = .boolean ∨ t = .byte ∨ t = .char ∨ t = .short) (hd : decode B pc = .ok (.ireturn, 1)) (hk : kk ≤ kc) (hn : nn ≤ ns) (hQ : Q (some (.int (nar t z))) h) :
    OF p e below n0 z0 (ENn s kc ns) Q T (mkF m pc L (.int z :: S)) := by
  obtain ⟨⟨hx, hZ, hby, hml, hown, hnm, hr, hlk⟩, hz, hz', rfl, locs, X, N⟩ := W
  subst hrt
  obtain ⟨fs, hl, h1, h2, h3, h4⟩ := X.leave (v := some (.int (nar t z))) (fun q => by rw [hr] at q; cases q) hlk
  exact ⟨_, _, retN X hx hr ht (hb hby hd) hl, h1, h2, _, _, rfl, ⟨hQ, hz', N⟩, ⟨_, rfl⟩, h3, h4.mono hk hn⟩
theorem o_retI {z : Int32} (W : OW p l e R s m args below meth c Z B ml own nm rt n0 z0 T h kk nn) (hrt : rt = some .int) (hd : decode B pc = .ok (.ireturn, 1)) (hk : kk ≤ kc) (hn : nn ≤ ns) (hQ : Q (some (.int z)) h) :
    OF p e below n0 z0 (ENn s kc ns) Q T (mkF m pc L (.int z :: S)) := by
  obtain ⟨⟨hx, hZ, hby, hml, hown, hnm, hr, hlk⟩, hz, hz', rfl, locs, X, N⟩ := W
  subst hrt
  obtain ⟨fs, hl, h1, h2, h3, h4⟩ := X.leave (v := some (.int z)) (fun q => by rw [hr] at q; cases q) hlk
  exact ⟨_, _, retOut X hx hr rfl (Or.inl ⟨rfl, Or.inl rfl, _, rfl⟩) (hb hby hd) hl, h1, h2, _, _, rfl, ⟨hQ, hz', N⟩, ⟨_, rfl⟩, h3, h4.mono hk hn⟩
theorem o_retJ {z : Int64} (W : OW p l e R s m args below meth c Z B ml own nm rt n0 z0 T h kk nn) (hrt : rt = some .long) (hd : decode B pc = .ok (.lreturn, 1)) (hk : kk ≤ kc) (hn : nn ≤ ns) (hQ : Q (some (.long z)) h) :
    OF p e below n0 z0 (ENn s kc ns) Q T (mkF m pc L (.long z :: S)) := by
  obtain ⟨⟨hx, hZ, hby, hml, hown, hnm, hr, hlk⟩, hz, hz', rfl, locs, X, N⟩ := W
  subst hrt
  obtain ⟨fs, hl, h1, h2, h3, h4⟩ := X.leave (v := some (.long z)) (fun q => by rw [hr] at q; cases q) hlk
  exact ⟨_, _, retOut X hx hr rfl (Or.inr (Or.inl ⟨rfl, rfl, _, rfl⟩)) (hb hby hd) hl, h1, h2, _, _, rfl, ⟨hQ, hz', N⟩, ⟨_, rfl⟩, h3, h4.mono hk hn⟩
theorem o_retA {t : FieldType} {z : Value} (W : OW p l e R s m args below meth c Z B ml own nm rt n0 z0 T h kk nn) (hrt : rt = some t) (ht : t.isReference = true) (hv : z.isRef = true) (hnz : narrow t z = z) (hd : decode B pc = .ok (.areturn, 1)) (hk : kk ≤ kc) (hn : nn ≤ ns) (hQ : Q (some z) h) :
    OF p e below n0 z0 (ENn s kc ns) Q T (mkF m pc L (z :: S)) := by
  obtain ⟨⟨hx, hZ, hby, hml, hown, hnm, hr, hlk⟩, hz, hz', rfl, locs, X, N⟩ := W
  subst hrt
  obtain ⟨fs, hl, h1, h2, h3, h4⟩ := X.leave (v := some z) (fun q => by rw [hr] at q; cases q) hlk
  exact ⟨_, _, retOut X hx hr hnz (Or.inr (Or.inr (Or.inr (Or.inr ⟨rfl, ht, hv⟩)))) (hb hby hd) hl, h1, h2, _, _, rfl, ⟨hQ, hz', N⟩, ⟨_, rfl⟩, h3, h4.mono hk hn⟩
theorem o_retV (W : OW p l e R s m args below meth c Z B ml own nm rt n0 z0 T h kk nn) (hrt : rt = none) (hd : decode B pc = .ok (.return_, 1)) (hk : kk ≤ kc) (hn : nn ≤ ns) (hQ : Q none h) :
    OF p e below n0 z0 (ENn s kc ns) Q T (mkF m pc L []) := by
  obtain ⟨⟨hx, hZ, hby, hml, hown, hnm, hr, hlk⟩, hz, hz', rfl, locs, X, N⟩ := W
  subst hrt
  obtain ⟨fs, hl, h1, h2, h3, h4⟩ := X.leave (v := none) (fun _ => rfl) hlk
  exact ⟨_, _, X.returnOut hx hr (hb hby hd) hl, h1, h2, _, _, rfl, ⟨hQ, hz', N⟩, ⟨_, rfl⟩, h3, h4.mono hk hn⟩
/-- a body's contract: called with 'as' at the heap h0 it returns what Q says -/
def OCon (l : Launch) (Z : State) (y : MethodName) (B : ByteArray) (ml : Nat) (rt : Option FieldType) (ws : List Jvm.Cond) (rm : Room) (as : Array Value) (h0 : Heap) (n0 : Nat) (Q : Option Value → Heap → Prop) : Prop :=
  MetFree l y (head1 (Jvm.Cond.code y B ml rt :: ws) rm) (fun a U => a = as ∧ Z.Warmed39 U.vm ∧ U.heap = h0) (fun _ _ _ _ _ => True)
    (fun _ U o U' => ∃ v L, o = .returned v ∧ OQ Q h0.size n0 v U'.heap L ∧ FrameEnd U o U' L rm.cells rm.slots)
theorem OCon.mk {y : MethodName} {ws : List Jvm.Cond} {rm : Room} {as : Array Value} {h0 : Heap} (hpl : plainFor y = true) (hz : n0 ≤ h0.size)
    (body : ∀ (p : Program) (e : Env) (s : State) (m : MethodId) (below : List Frame) (meth : Method) (c : Code) (s₁ : State), OW p l e rm s m as below meth c Z B ml y.cls y.name rt n0 h0.size s₁ h0 0 0 → OF p e below n0 h0.size (ENn s rm.cells rm.slots) Q s₁ (entryFrame m as ml)) :
    OCon l Z y B ml rt ws rm as h0 n0 Q := by
  refine MetFree.of_bodySF hpl hisR ?_
  intro p e s m args below meth c s₁ Bd hml0 hP hK
  obtain ⟨rfl, hZ, hh⟩ := hP
  exact body p e s m below meth c s₁ ⟨⟨Bd.exec, hZ, Bd.bytes, hml0, findClass_of_methodNamed Bd.named, (name_of_methodNamed Bd.named Bd.method).1, Bd.returns, Bd.notSynchronized⟩, hz, Nat.le_refl _, by rw [← hh, Bd.state]; rfl, [], Stand.of_body Bd, Fr.nil _⟩
theorem o_callS {index : Nat} {y : MethodName} {B' : ByteArray} {ml' wt : Nat} {rt' : Option FieldType} {rm : Room} {as : Array Value} {Q' : Option Value → Heap → Prop} {argsL : List Value} {st : List Value} (W : OW p l e R s m args below meth c Z B ml own nm rt n0 z0 T h kk nn)
    (C : OCon l Z y B' ml' rt' [] rm as h n0 Q') (w1 : (Jvm.Cond.methodLink own index y).before a0 Z = true) (w2 : (Jvm.Cond.static y).before a0 Z = true) (w3 : (Jvm.Cond.initialized y.cls).before a0 Z = true) (w4 : (Jvm.Cond.code y B' ml' rt').before a0 Z = true)
    (hy : y.cls ≠ "java/lang/invoke/MethodHandle" ∧ y.cls ≠ "java/lang/invoke/VarHandle") (hlen : ∀ sig, parseMethodDescriptor y.desc = some sig → argsL.length = sig.parameters.length) (has : argsL.toArray = as) (hst : st = argsL.reverse ++ S) (hL : L.size = ml)
    (hwt : (S.map fun v => v.category).sum = wt) (hfr : rm.frames + 1 ≤ R.frames) (hlo : wt + (ml' + 11) + rm.locals ≤ R.locals) (hcl : kk + rm.cells ≤ R.cells) (hsl : nn + rm.slots ≤ R.slots) (hk' : kk + rm.cells = kk') (hn' : nn + rm.slots = nn')
    (hd : decode B pc = .ok (.invokestatic index, 3)) (hp : pc + 3 = pc')
    (k1 : ∀ v T' h', OW p l e R s m args below meth c Z B ml own nm rt n0 z0 T' h' kk' nn' → Q' v h' → h.size ≤ h'.size → OF p e below n1 z1 EN Q T' (mkF m pc' L (v.toList ++ S))) : OF p e below n1 z1 EN Q T (mkF m pc L st) := by
  subst hp has hk' hn' hst
  obtain ⟨cx, hz, hz', eT, locs, X, N⟩ := W
  obtain ⟨hx, hZ, hby, hml, hown, hnm, hr, hlk⟩ := cx
  obtain ⟨v, _, ⟨T', L2, k2, n2⟩, -, X2, ⟨Lc, hQ, l2, y2, z2⟩, st2⟩ := Jvm.LawKit.callS X hx (y := y) hown (mvT hZ w1) (mvT hZ w2) (mvT hZ w3) (mvT hZ w4) hy (backOf (W := wt) (Q := OQ Q' h.size n0) C hZ w4 w3 hfr hlo) (g := mkF m pc L (argsL.reverse ++ S)) rfl (hL.trans hml.symm) (argsL := argsL) (rest := S) hlen rfl
    (by show 2 * 0 + _ ≤ _; rw [hwt]; omega) (hb hby hd) (fun _ _ => ⟨rfl, eT, hcl, hsl⟩)
  dsimp only [Pt.U, Pt.locs, Pt.cells, Pt.slots] at X2 l2 y2 z2 st2 hQ
  subst l2 y2 z2
  obtain ⟨q1, q2, q3⟩ := hQ
  exact OF.step (fun t z => st2 t z) (k1 v T' T'.heap ⟨⟨hx, hZ, hby, hml, hown, hnm, hr, hlk⟩, hz, Nat.le_trans hz' q2, rfl, _, X2, Fr.app N q3⟩ q1 q2)
theorem o_callSI {index : Nat} {y : MethodName} {B' : ByteArray} {ml' wt : Nat} {rt' : Option FieldType} {rm : Room} {as : Array Value} {P' : Int32 → Heap → Prop} {argsL : List Value} {st : List Value} (W : OW p l e R s m args below meth c Z B ml own nm rt n0 z0 T h kk nn)
    (C : OCon l Z y B' ml' rt' [] rm as h n0 (QI P')) (w1 : (Jvm.Cond.methodLink own index y).before a0 Z = true) (w2 : (Jvm.Cond.static y).before a0 Z = true) (w3 : (Jvm.Cond.initialized y.cls).before a0 Z = true) (w4 : (Jvm.Cond.code y B' ml' rt').before a0 Z = true)
    (hy : y.cls ≠ "java/lang/invoke/MethodHandle" ∧ y.cls ≠ "java/lang/invoke/VarHandle") (hlen : ∀ sig, parseMethodDescriptor y.desc = some sig → argsL.length = sig.parameters.length) (has : argsL.toArray = as) (hst : st = argsL.reverse ++ S) (hL : L.size = ml)
    (hwt : (S.map fun v => v.category).sum = wt) (hfr : rm.frames + 1 ≤ R.frames) (hlo : wt + (ml' + 11) + rm.locals ≤ R.locals) (hcl : kk + rm.cells ≤ R.cells) (hsl : nn + rm.slots ≤ R.slots) (hk' : kk + rm.cells = kk') (hn' : nn + rm.slots = nn')
    (hd : decode B pc = .ok (.invokestatic index, 3)) (hp : pc + 3 = pc')
    (k1 : ∀ r T' h', OW p l e R s m args below meth c Z B ml own nm rt n0 z0 T' h' kk' nn' → P' r h' → h.size ≤ h'.size → OF p e below n1 z1 EN Q T' (mkF m pc' L (.int r :: S))) : OF p e below n1 z1 EN Q T (mkF m pc L st) :=
  o_callS W C w1 w2 w3 w4 hy hlen has hst hL hwt hfr hlo hcl hsl hk' hn' hd hp (fun v T' h' W' q z => by
    obtain ⟨r, rfl, q⟩ := q
    exact k1 r T' h' W' q z)
theorem o_callSJ {index : Nat} {y : MethodName} {B' : ByteArray} {ml' wt : Nat} {rt' : Option FieldType} {rm : Room} {as : Array Value} {P' : Int64 → Heap → Prop} {argsL : List Value} {st : List Value} (W : OW p l e R s m args below meth c Z B ml own nm rt n0 z0 T h kk nn)
    (C : OCon l Z y B' ml' rt' [] rm as h n0 (QJ P')) (w1 : (Jvm.Cond.methodLink own index y).before a0 Z = true) (w2 : (Jvm.Cond.static y).before a0 Z = true) (w3 : (Jvm.Cond.initialized y.cls).before a0 Z = true) (w4 : (Jvm.Cond.code y B' ml' rt').before a0 Z = true)
    (hy : y.cls ≠ "java/lang/invoke/MethodHandle" ∧ y.cls ≠ "java/lang/invoke/VarHandle") (hlen : ∀ sig, parseMethodDescriptor y.desc = some sig → argsL.length = sig.parameters.length) (has : argsL.toArray = as) (hst : st = argsL.reverse ++ S) (hL : L.size = ml)
    (hwt : (S.map fun v => v.category).sum = wt) (hfr : rm.frames + 1 ≤ R.frames) (hlo : wt + (ml' + 11) + rm.locals ≤ R.locals) (hcl : kk + rm.cells ≤ R.cells) (hsl : nn + rm.slots ≤ R.slots) (hk' : kk + rm.cells = kk') (hn' : nn + rm.slots = nn')
    (hd : decode B pc = .ok (.invokestatic index, 3)) (hp : pc + 3 = pc')
    (k1 : ∀ r T' h', OW p l e R s m args below meth c Z B ml own nm rt n0 z0 T' h' kk' nn' → P' r h' → h.size ≤ h'.size → OF p e below n1 z1 EN Q T' (mkF m pc' L (.long r :: S))) : OF p e below n1 z1 EN Q T (mkF m pc L st) :=
  o_callS W C w1 w2 w3 w4 hy hlen has hst hL hwt hfr hlo hcl hsl hk' hn' hd hp (fun v T' h' W' q z => by
    obtain ⟨r, rfl, q⟩ := q
    exact k1 r T' h' W' q z)
theorem o_callSA {index : Nat} {y : MethodName} {B' : ByteArray} {ml' wt : Nat} {rt' : Option FieldType} {rm : Room} {as : Array Value} {P' : Addr → Heap → Prop} {argsL : List Value} {st : List Value} (W : OW p l e R s m args below meth c Z B ml own nm rt n0 z0 T h kk nn)
    (C : OCon l Z y B' ml' rt' [] rm as h n0 (QA P')) (w1 : (Jvm.Cond.methodLink own index y).before a0 Z = true) (w2 : (Jvm.Cond.static y).before a0 Z = true) (w3 : (Jvm.Cond.initialized y.cls).before a0 Z = true) (w4 : (Jvm.Cond.code y B' ml' rt').before a0 Z = true)
    (hy : y.cls ≠ "java/lang/invoke/MethodHandle" ∧ y.cls ≠ "java/lang/invoke/VarHandle") (hlen : ∀ sig, parseMethodDescriptor y.desc = some sig → argsL.length = sig.parameters.length) (has : argsL.toArray = as) (hst : st = argsL.reverse ++ S) (hL : L.size = ml)
    (hwt : (S.map fun v => v.category).sum = wt) (hfr : rm.frames + 1 ≤ R.frames) (hlo : wt + (ml' + 11) + rm.locals ≤ R.locals) (hcl : kk + rm.cells ≤ R.cells) (hsl : nn + rm.slots ≤ R.slots) (hk' : kk + rm.cells = kk') (hn' : nn + rm.slots = nn')
    (hd : decode B pc = .ok (.invokestatic index, 3)) (hp : pc + 3 = pc')
    (k1 : ∀ r T' h', OW p l e R s m args below meth c Z B ml own nm rt n0 z0 T' h' kk' nn' → P' r h' → h.size ≤ h'.size → OF p e below n1 z1 EN Q T' (mkF m pc' L (.ref r :: S))) : OF p e below n1 z1 EN Q T (mkF m pc L st) :=
  o_callS W C w1 w2 w3 w4 hy hlen has hst hL hwt hfr hlo hcl hsl hk' hn' hd hp (fun v T' h' W' q z => by
    obtain ⟨r, rfl, q⟩ := q
    exact k1 r T' h' W' q z)
/-- an array of ints, bytes or chars at a, with these components -/
def OA (Z : State) (h : Heap) (a : Addr) (ty : FieldType) (xs : List Int32) : Prop := xs.length < 2 ^ 31 ∧ (∀ x ∈ xs, fits ty (.int x) = true) ∧ ∃ cl : Cell, Arr Z h a cl ty ∧ cl.slots = (xs.map Value.int).toArray
theorem OA.lt {a : Addr} {ty : FieldType} {xs : List Int32} (A : OA Z h a ty xs) : a < h.size := by obtain ⟨_, _, _, A, _⟩ := A; exact A.lt
theorem OA.ext {a : Addr} {ty : FieldType} {xs : List Int32} (A : OA Z h a ty xs) (E : Ext h h') : OA Z h' a ty xs := by obtain ⟨q1, q2, cl, A, q3⟩ := A; exact ⟨q1, q2, cl, A.ext E, q3⟩
theorem OA.keep {a : Addr} {ty : FieldType} {xs : List Int32} {ws : List Addr} (A : OA Z h a ty xs) (K : Keep h h' ws) (q : a ∉ ws) : OA Z h' a ty xs := by obtain ⟨q1, q2, cl, A, q3⟩ := A; exact ⟨q1, q2, cl, ⟨K.2.1 a cl A.1 q, A.2⟩, q3⟩
theorem OA.keep1 {a b : Addr} {ty : FieldType} {xs : List Int32} (A : OA Z h a ty xs) (K : Keep h h' [b]) (q : a ≠ b) : OA Z h' a ty xs := A.keep K (by simpa using q)
theorem OA.len {a : Addr} {ty : FieldType} {xs : List Int32} (A : OA Z h a ty xs) : xs.length < 2 ^ 31 := A.1
theorem o_tn (x : Int32) : x.toNatClampNeg = x.toInt.toNat := rfl
theorem o_nat {j : Int32} {i : Nat} (q : j.toInt = i) : j.toNatClampNeg = i := by rw [o_tn, q]; exact Int.toNat_natCast i
theorem o_in {j : Int32} {i : Nat} {xs : List Int32} {cl : Cell} (hi : j.toInt = i) (hs : cl.slots = (xs.map Value.int).toArray) (q : i < xs.length) : ¬ (j < 0 ∨ cl.slots.size ≤ j.toNatClampNeg) := by
  rw [o_nat hi, hs]; simp only [List.size_toArray, List.length_map, Int32.lt_iff_toInt_lt, hi, o_zero]; omega
theorem o_newarray {aty : ArrayType} {ty : FieldType} {v : Int32} {len cap : Nat} (W : OW p l e R s m args below meth c Z B ml own nm rt n0 z0 T h kk nn) (w : (Jvm.Cond.arrayClass ty).before a0 Z = true) (hty : newarray.typeOf aty = ty) (hdv : defaultValue ty = .int 0) (hft : fits ty (.int 0) = true) (hd : decode B pc = .ok (.newarray aty, 2)) (hp : pc + 2 = pc')
    (hv : v.toInt = len) (hlc : len ≤ cap) (hcap : cap * 8 ≤ 536870912) (hc : kk + 1 ≤ R.cells) (hl : nn + cap ≤ R.slots) (hk' : kk + 1 = kk') (hn' : nn + cap = nn')
    (k1 : ∀ T' h' a, OW p l e R s m args below meth c Z B ml own nm rt n0 z0 T' h' kk' nn' → Ext h h' → a = h.size → OA Z h' a ty (List.replicate len 0) → OF p e below n1 z1 EN Q T' (mkF m pc' L (.ref a :: S))) : OF p e below n1 z1 EN Q T (mkF m pc L (.int v :: S)) := by
  subst hp hk' hn' hty
  obtain ⟨cx, hz, hz', eT, locs, X, N⟩ := W
  obtain ⟨hx, hZ, hby, hml, hown, hnm, hr, hlk⟩ := cx
  obtain ⟨T', h', cA, X', e', E, A, st⟩ := newP X hx hZ w eT (g := mkF m pc L (.int v :: S)) rfl (hb hby hd) rfl (o_nlt (by rw [hv, o_zero]; omega)) (cap := cap) (by rw [o_nat hv]; exact hlc) hcap hc hl
  refine OF.step (fun t z => st t z) (k1 T' h' h.size ⟨⟨hx, hZ, hby, hml, hown, hnm, hr, hlk⟩, hz, Nat.le_trans hz' E.1, e', _, X', N⟩ E rfl ⟨by rw [List.length_replicate]; omega, fun x hx => by rw [List.mem_replicate] at hx; rw [hx.2]; exact hft, _, A, ?_⟩)
  simp [newA, hdv, o_nat hv]
theorem o_iaload {a : Addr} {xs : List Int32} {j v : Int32} {i : Nat} (W : OW p l e R s m args below meth c Z B ml own nm rt n0 z0 T h kk nn) (A : OA Z h a .int xs) (hd : decode B pc = .ok (.iaload, 1)) (hp : pc + 1 = pc') (hi : j.toInt = i) (hv : xs[i]? = some v)
    (k1 : OF p e below n1 z1 EN Q T (mkF m pc' L (.int v :: S))) : OF p e below n1 z1 EN Q T (mkF m pc L (.int j :: .ref a :: S)) := by
  subst hp
  obtain ⟨cx, hz, hz', eT, locs, X, N⟩ := W
  obtain ⟨hx, hZ, hby, hml, hown, hnm, hr, hlk⟩ := cx
  obtain ⟨q1, q2, cl, A, q3⟩ := A
  have hlt : i < xs.length := (List.getElem?_eq_some_iff.mp hv).1
  exact OF.step (fun t z => X.iaload hx (j := j) (v := .int v) (by rw [eT]; exact A.1) (State.isArrayOf_alike hZ.alike A.2.1) A.2.2 (o_in hi q3 hlt) (by rw [o_nat hi, q3]; simp [hv]) (g := mkF m pc L (.int j :: .ref a :: S)) rfl rfl (hb hby hd) t z) k1
theorem o_baload {a : Addr} {xs : List Int32} {j v : Int32} {i : Nat} (W : OW p l e R s m args below meth c Z B ml own nm rt n0 z0 T h kk nn) (A : OA Z h a .byte xs) (hd : decode B pc = .ok (.baload, 1)) (hp : pc + 1 = pc') (hi : j.toInt = i) (hv : xs[i]? = some v)
    (k1 : OF p e below n1 z1 EN Q T (mkF m pc' L (.int v :: S))) : OF p e below n1 z1 EN Q T (mkF m pc L (.int j :: .ref a :: S)) := by
  subst hp
  obtain ⟨cx, hz, hz', eT, locs, X, N⟩ := W
  obtain ⟨hx, hZ, hby, hml, hown, hnm, hr, hlk⟩ := cx
  obtain ⟨q1, q2, cl, A, q3⟩ := A
  have hlt : i < xs.length := (List.getElem?_eq_some_iff.mp hv).1
  exact OF.step (fun t z => X.baloadBytes hx (j := j) (v := .int v) (by rw [eT]; exact A.1) (State.isArrayOf_alike hZ.alike A.2.1) A.2.2 (o_in hi q3 hlt) (by rw [o_nat hi, q3]; simp [hv]) (g := mkF m pc L (.int j :: .ref a :: S)) rfl rfl (hb hby hd) t z) k1
theorem o_caload {a : Addr} {xs : List Int32} {j v : Int32} {i : Nat} (W : OW p l e R s m args below meth c Z B ml own nm rt n0 z0 T h kk nn) (A : OA Z h a .char xs) (hd : decode B pc = .ok (.caload, 1)) (hp : pc + 1 = pc') (hi : j.toInt = i) (hv : xs[i]? = some v)
    (k1 : OF p e below n1 z1 EN Q T (mkF m pc' L (.int v :: S))) : OF p e below n1 z1 EN Q T (mkF m pc L (.int j :: .ref a :: S)) := by
  subst hp
  obtain ⟨cx, hz, hz', eT, locs, X, N⟩ := W
  obtain ⟨hx, hZ, hby, hml, hown, hnm, hr, hlk⟩ := cx
  obtain ⟨q1, q2, cl, A, q3⟩ := A
  have hlt : i < xs.length := (List.getElem?_eq_some_iff.mp hv).1
  exact OF.step (fun t z => X.caload hx (j := j) (v := .int v) (by rw [eT]; exact A.1) (State.isArrayOf_alike hZ.alike A.2.1) A.2.2 (o_in hi q3 hlt) (by rw [o_nat hi, q3]; simp [hv]) (g := mkF m pc L (.int j :: .ref a :: S)) rfl rfl (hb hby hd) t z) k1
theorem o_iastore {a : Addr} {xs : List Int32} {j x : Int32} {i : Nat} (W : OW p l e R s m args below meth c Z B ml own nm rt n0 z0 T h kk nn) (A : OA Z h a .int xs) (ha : n0 ≤ a) (hd : decode B pc = .ok (.iastore, 1)) (hp : pc + 1 = pc') (hi : j.toInt = i) (hlt : i < xs.length)
    (k1 : ∀ T' h', OW p l e R s m args below meth c Z B ml own nm rt n0 z0 T' h' kk nn → Keep h h' [a] → OA Z h' a .int (xs.set i (x)) → OF p e below n1 z1 EN Q T' (mkF m pc' L S)) : OF p e below n1 z1 EN Q T (mkF m pc L (.int x :: .int j :: .ref a :: S)) := by
  subst hp
  obtain ⟨cx, hz, hz', eT, locs, X, N⟩ := W
  obtain ⟨hx, hZ, hby, hml, hown, hnm, hr, hlk⟩ := cx
  obtain ⟨q1, q2, cl, A, q3⟩ := A
  obtain ⟨T', h', X', e', Wr', st⟩ := stI X hx hZ eT A (j := j) (x := x) (o_in hi q3 hlt) (g := mkF m pc L (.int x :: .int j :: .ref a :: S)) rfl rfl (hb hby hd)
  have Wr' : Wr h h' a j.toNatClampNeg (.int (x)) := Wr'
  refine OF.step (fun t z => st t z) (k1 T' h' ⟨⟨hx, hZ, hby, hml, hown, hnm, hr, hlk⟩, hz, Nat.le_trans hz' (Nat.le_of_eq Wr'.size.symm), e', _, X', Fr.snoc X' N ha⟩ (Keep.of_wr Wr') ⟨by rw [List.length_set]; exact q1, fun y hy => ?_, _, A.same Wr', ?_⟩)
  · rcases List.mem_or_eq_of_mem_set hy with hy | rfl
    · exact q2 y hy
    · exact rfl
  · rw [o_nat hi]; simp [Cell.setSlot, q3, List.map_set]; try rfl
theorem o_bastore {a : Addr} {xs : List Int32} {j x : Int32} {i : Nat} (W : OW p l e R s m args below meth c Z B ml own nm rt n0 z0 T h kk nn) (A : OA Z h a .byte xs) (ha : n0 ≤ a) (hd : decode B pc = .ok (.bastore, 1)) (hp : pc + 1 = pc') (hi : j.toInt = i) (hlt : i < xs.length)
    (k1 : ∀ T' h', OW p l e R s m args below meth c Z B ml own nm rt n0 z0 T' h' kk nn → Keep h h' [a] → OA Z h' a .byte (xs.set i (x.toInt8.toInt32)) → OF p e below n1 z1 EN Q T' (mkF m pc' L S)) : OF p e below n1 z1 EN Q T (mkF m pc L (.int x :: .int j :: .ref a :: S)) := by
  subst hp
  obtain ⟨cx, hz, hz', eT, locs, X, N⟩ := W
  obtain ⟨hx, hZ, hby, hml, hown, hnm, hr, hlk⟩ := cx
  obtain ⟨q1, q2, cl, A, q3⟩ := A
  obtain ⟨T', h', X', e', Wr', st⟩ := stB X hx hZ eT A (j := j) (x := x) (o_in hi q3 hlt) (g := mkF m pc L (.int x :: .int j :: .ref a :: S)) rfl rfl (hb hby hd)
  have Wr' : Wr h h' a j.toNatClampNeg (.int (x.toInt8.toInt32)) := Wr'
  refine OF.step (fun t z => st t z) (k1 T' h' ⟨⟨hx, hZ, hby, hml, hown, hnm, hr, hlk⟩, hz, Nat.le_trans hz' (Nat.le_of_eq Wr'.size.symm), e', _, X', Fr.snoc X' N ha⟩ (Keep.of_wr Wr') ⟨by rw [List.length_set]; exact q1, fun y hy => ?_, _, A.same Wr', ?_⟩)
  · rcases List.mem_or_eq_of_mem_set hy with hy | rfl
    · exact q2 y hy
    · exact fits_nar_byte x
  · rw [o_nat hi]; simp [Cell.setSlot, q3, List.map_set]; try rfl
theorem o_castore {a : Addr} {xs : List Int32} {j x : Int32} {i : Nat} (W : OW p l e R s m args below meth c Z B ml own nm rt n0 z0 T h kk nn) (A : OA Z h a .char xs) (ha : n0 ≤ a) (hd : decode B pc = .ok (.castore, 1)) (hp : pc + 1 = pc') (hi : j.toInt = i) (hlt : i < xs.length)
    (k1 : ∀ T' h', OW p l e R s m args below meth c Z B ml own nm rt n0 z0 T' h' kk nn → Keep h h' [a] → OA Z h' a .char (xs.set i (x.toUInt32.toUInt16.toUInt32.toInt32)) → OF p e below n1 z1 EN Q T' (mkF m pc' L S)) : OF p e below n1 z1 EN Q T (mkF m pc L (.int x :: .int j :: .ref a :: S)) := by
  subst hp
  obtain ⟨cx, hz, hz', eT, locs, X, N⟩ := W
  obtain ⟨hx, hZ, hby, hml, hown, hnm, hr, hlk⟩ := cx
  obtain ⟨q1, q2, cl, A, q3⟩ := A
  obtain ⟨T', h', X', e', Wr', st⟩ := stC X hx hZ eT A (j := j) (x := x) (o_in hi q3 hlt) (g := mkF m pc L (.int x :: .int j :: .ref a :: S)) rfl rfl (hb hby hd)
  have Wr' : Wr h h' a j.toNatClampNeg (.int (x.toUInt32.toUInt16.toUInt32.toInt32)) := Wr'
  refine OF.step (fun t z => st t z) (k1 T' h' ⟨⟨hx, hZ, hby, hml, hown, hnm, hr, hlk⟩, hz, Nat.le_trans hz' (Nat.le_of_eq Wr'.size.symm), e', _, X', Fr.snoc X' N ha⟩ (Keep.of_wr Wr') ⟨by rw [List.length_set]; exact q1, fun y hy => ?_, _, A.same Wr', ?_⟩)
  · rcases List.mem_or_eq_of_mem_set hy with hy | rfl
    · exact q2 y hy
    · exact fits_nar_char x
  · rw [o_nat hi]; simp [Cell.setSlot, q3, List.map_set]; try rfl
theorem o_arraylength {a : Addr} {ty : FieldType} {xs : List Int32} (W : OW p l e R s m args below meth c Z B ml own nm rt n0 z0 T h kk nn) (A : OA Z h a ty xs) (hd : decode B pc = .ok (.arraylength, 1)) (hp : pc + 1 = pc')
    (k1 : ∀ v : Int32, v.toInt = xs.length → OF p e below n1 z1 EN Q T (mkF m pc' L (.int v :: S))) : OF p e below n1 z1 EN Q T (mkF m pc L (.ref a :: S)) := by
  subst hp
  obtain ⟨cx, hz, hz', eT, locs, X, N⟩ := W
  obtain ⟨hx, hZ, hby, hml, hown, hnm, hr, hlk⟩ := cx
  obtain ⟨q1, q2, cl, A, q3⟩ := A
  have hs : cl.slots.size = xs.length := by rw [q3]; simp
  exact OF.step (fun t z => X.arraylength hx (by rw [eT]; exact A.1) (State.isArrayOf_alike hZ.alike A.2.1) (g := mkF m pc L (.ref a :: S)) rfl rfl (hb hby hd) t z) (k1 cl.slots.size.toInt32 (by rw [hs]; exact len_toInt q1))
theorem OF.join {α : Type} (Jn : α → Prop) (Tf : α → State) (fr : α → JFrame) {f : JFrame} (k1 : ∀ v, Jn v → OF p e below n1 z1 EN Q (Tf v) (fr v)) (k2 : (∀ v, Jn v → OF p e below n1 z1 EN Q (Tf v) (fr v)) → OF p e below n1 z1 EN Q T f) : OF p e below n1 z1 EN Q T f := k2 k1
theorem OF.loop {α : Type} (mu : α → Nat) (Jn : α → Prop) (Tf : α → State) (fr : α → JFrame) (k1 : ∀ v, Jn v → (∀ v', Jn v' → mu v' < mu v → OF p e below n1 z1 EN Q (Tf v') (fr v')) → OF p e below n1 z1 EN Q (Tf v) (fr v)) (v0 : α) (hv0 : Jn v0) : OF p e below n1 z1 EN Q (Tf v0) (fr v0) := by
  have key : ∀ n v, mu v < n → Jn v → OF p e below n1 z1 EN Q (Tf v) (fr v) := by
    intro n
    induction n with
    | zero => intro v hn; omega
    | succ n ih => intro v hn hv; exact k1 v hv (fun v' hv' hlt => ih v' (by omega) hv')
  exact key _ v0 (Nat.lt_succ_self _) hv0
theorem o_new {index n : Nat} {C : String} (W : OW p l e R s m args below meth c Z B ml own nm rt n0 z0 T h kk nn) (w : (Jvm.Cond.classLink own index C).before a0 Z = true) (wi : (Jvm.Cond.instantiable C n).before a0 Z = true) (wz : (Jvm.Cond.initialized C).before a0 Z = true) (hd : decode B pc = .ok (.new index, 3)) (hp : pc + 3 = pc')
    (hc : kk + 1 ≤ R.cells) (hl : nn + n ≤ R.slots) (hk' : kk + 1 = kk') (hn' : nn + n = nn')
    (k1 : ∀ T' h' a, OW p l e R s m args below meth c Z B ml own nm rt n0 z0 T' h' kk' nn' → Ext h h' → a = h.size → Exa Z h' a C → (∀ {O nm d : String} {ty : FieldType}, Laid Z a0 C O nm d → parseFieldDescriptor d = some ty → Fld Z h' a O nm d (defaultValue ty)) → OF p e below n1 z1 EN Q T' (mkF m pc' L (.ref a :: S))) : OF p e below n1 z1 EN Q T (mkF m pc L S) := by
  subst hp hk' hn'
  obtain ⟨cx, hz, hz', eT, locs, X, N⟩ := W
  obtain ⟨hx, hZ, hby, hml, hown, hnm, hr, hlk⟩ := cx
  obtain ⟨T', h', X', e', E, A, D, -, st⟩ := newO X hx hZ hown w wi wz eT (g := mkF m pc L S) rfl (hb hby hd) hc hl
  exact OF.step (fun t z => st t z) (k1 T' h' h.size ⟨⟨hx, hZ, hby, hml, hown, hnm, hr, hlk⟩, hz, Nat.le_trans hz' E.1, e', _, X', N⟩ E rfl A D)
theorem o_getF {index : Nat} {O f d : String} {a : Addr} {v : Value} (W : OW p l e R s m args below meth c Z B ml own nm rt n0 z0 T h kk nn) (w : (Jvm.Cond.fieldLink own index O f d).before a0 Z = true) (Fl : Fld Z h a O f d v) (hd : decode B pc = .ok (.getfield index, 3)) (hp : pc + 3 = pc')
    (k1 : ∀ T', OW p l e R s m args below meth c Z B ml own nm rt n0 z0 T' h kk nn → OF p e below n1 z1 EN Q T' (mkF m pc' L (v :: S))) : OF p e below n1 z1 EN Q T (mkF m pc L (.ref a :: S)) := by
  subst hp
  obtain ⟨cx, hz, hz', eT, locs, X, N⟩ := W
  obtain ⟨hx, hZ, hby, hml, hown, hnm, hr, hlk⟩ := cx
  obtain ⟨T', X', e', st⟩ := getF X hx hZ hown (host := "") (Or.inl w) Via.refl eT Fl (g := mkF m pc L (.ref a :: S)) rfl rfl (hb hby hd)
  exact OF.step (fun t z => st t z) (k1 T' ⟨⟨hx, hZ, hby, hml, hown, hnm, hr, hlk⟩, hz, hz', e', _, X', N⟩)
theorem o_putF {index kz : Nat} {O f d C : String} {a : Addr} {v v' old : Value} {ty : FieldType} (W : OW p l e R s m args below meth c Z B ml own nm rt n0 z0 T h kk nn) (w : (Jvm.Cond.fieldLink own index O f d).before a0 Z = true) (Fl : Fld Z h a O f d old) (E : Exa Z h a C) (Ly : (Jvm.Cond.lays C O f d).before a0 Z = true ∨ ((Jvm.Cond.laysFinal C O f d).before a0 Z = true ∧ own = O ∧ nm = "<init>")) (wi : (Jvm.Cond.instantiable C kz).before a0 Z = true)
    (hty : parseFieldDescriptor d = some ty) (hnw : narrow ty v = v') (hf : fits ty v' = true) (ha : n0 ≤ a) (hd : decode B pc = .ok (.putfield index, 3)) (hp : pc + 3 = pc')
    (k1 : ∀ T' h', OW p l e R s m args below meth c Z B ml own nm rt n0 z0 T' h' kk nn → Wr h h' a (Jvm.RoadKit.slotOf Z O f d) v' → OF p e below n1 z1 EN Q T' (mkF m pc' L S)) : OF p e below n1 z1 EN Q T (mkF m pc L (v :: .ref a :: S)) := by
  subst hp
  obtain ⟨cx, hz, hz', eT, locs, X, N⟩ := W
  obtain ⟨hx, hZ, hby, hml, hown, hnm, hr, hlk⟩ := cx
  obtain ⟨T', h', X', e', Wr', st⟩ := putFN X hx hZ hown w Via.refl eT Fl E (Ly.imp id (fun q => ⟨q.1, q.2.1, hnm.trans q.2.2⟩)) wi hty hnw hf (g := mkF m pc L (v :: .ref a :: S)) rfl rfl (hb hby hd)
  exact OF.step (fun t z => st t z) (k1 T' h' ⟨⟨hx, hZ, hby, hml, hown, hnm, hr, hlk⟩, hz, Nat.le_trans hz' (Nat.le_of_eq Wr'.size.symm), e', _, X', Fr.snoc X' N ha⟩ Wr')
theorem o_initO {index wt : Nat} {a : Addr} (W : OW p l e R s m args below meth c Z B ml own nm rt n0 z0 T h kk nn) (w1 : (Jvm.Cond.methodLink own index Lib.objectInit).before a0 Z = true) (w2 : (Jvm.Cond.instanceMethod Lib.objectInit).before a0 Z = true) (w3 : (Jvm.Cond.code Lib.objectInit ⟨#[0xb1]⟩ 1 none).before a0 Z = true)
    (hL : L.size = ml) (hwt : (S.map fun v => v.category).sum = wt) (hfr : 1 ≤ R.frames) (hlo : wt + 12 ≤ R.locals) (hd : decode B pc = .ok (.invokespecial index, 3)) (hp : pc + 3 = pc')
    (k1 : ∀ T', OW p l e R s m args below meth c Z B ml own nm rt n0 z0 T' h kk nn → OF p e below n1 z1 EN Q T' (mkF m pc' L S)) : OF p e below n1 z1 EN Q T (mkF m pc L (.ref a :: S)) := by
  subst hp
  obtain ⟨cx, hz, hz', eT, locs, X, N⟩ := W
  obtain ⟨hx, hZ, hby, hml, hown, hnm, hr, hlk⟩ := cx
  obtain ⟨T', X', e', st⟩ := initO X hx hZ hown w1 w2 w3 eT (g := mkF m pc L (.ref a :: S)) rfl (hL.trans hml.symm) rfl (hb hby hd) hfr (W := wt) (by show 2 * 0 + _ ≤ _; rw [hwt]; omega) hlo
  exact OF.step (fun t z => st t z) (k1 T' ⟨⟨hx, hZ, hby, hml, hown, hnm, hr, hlk⟩, hz, hz', e', _, X', N⟩)
theorem o_callC {index : Nat} {y : MethodName} {B' : ByteArray} {ml' wt : Nat} {rm : Room} {as : Array Value} {P' : Heap → Prop} {a : Addr} {argsL : List Value} {st : List Value} (W : OW p l e R s m args below meth c Z B ml own nm rt n0 z0 T h kk nn)
    (C : OCon l Z y B' ml' none [] rm as h n0 (QV P')) (hy1 : y.name = "<init>") (w1 : (Jvm.Cond.methodLink own index y).before a0 Z = true) (w2 : (Jvm.Cond.instanceMethod y).before a0 Z = true) (w3 : (Jvm.Cond.initialized y.cls).before a0 Z = true) (w4 : (Jvm.Cond.code y B' ml' none).before a0 Z = true)
    (hy : y.cls ≠ "java/lang/invoke/MethodHandle" ∧ y.cls ≠ "java/lang/invoke/VarHandle") (hlen : ∀ sig, parseMethodDescriptor y.desc = some sig → argsL.length = sig.parameters.length) (has : (.ref a :: argsL).toArray = as) (hst : st = argsL.reverse ++ .ref a :: S) (hL : L.size = ml)
    (hwt : (S.map fun v => v.category).sum = wt) (hfr : rm.frames + 1 ≤ R.frames) (hlo : wt + (ml' + 11) + rm.locals ≤ R.locals) (hcl : kk + rm.cells ≤ R.cells) (hsl : nn + rm.slots ≤ R.slots) (hk' : kk + rm.cells = kk') (hn' : nn + rm.slots = nn')
    (hd : decode B pc = .ok (.invokespecial index, 3)) (hp : pc + 3 = pc')
    (k1 : ∀ T' h', OW p l e R s m args below meth c Z B ml own nm rt n0 z0 T' h' kk' nn' → P' h' → h.size ≤ h'.size → OF p e below n1 z1 EN Q T' (mkF m pc' L S)) : OF p e below n1 z1 EN Q T (mkF m pc L st) := by
  subst hp has hk' hn' hst
  obtain ⟨cx, hz, hz', eT, locs, X, N⟩ := W
  obtain ⟨hx, hZ, hby, hml, hown, hnm, hr, hlk⟩ := cx
  obtain ⟨v, _, ⟨T', L2, k2, n2⟩, -, X2, ⟨Lc, hQ, l2, y2, z2⟩, st2⟩ := X.specialBack hx (y := y) hy1 hown (mvT hZ w1) (mvT hZ w2) (mvT hZ w4) hy (backOf (W := wt) (Q := OQ (QV P') h.size n0) C hZ w4 w3 hfr hlo) (g := mkF m pc L (argsL.reverse ++ .ref a :: S)) rfl (hL.trans hml.symm) (Steps.refl _) (a := a) (argsL := argsL) (rest := S) hlen rfl
    (by show 2 * 0 + _ ≤ _; rw [hwt]; omega) (hb hby hd) (fun _ _ => ⟨rfl, eT, hcl, hsl⟩)
  dsimp only [Pt.U, Pt.locs, Pt.cells, Pt.slots] at X2 l2 y2 z2 st2 hQ
  subst l2 y2 z2
  obtain ⟨⟨rfl, q1⟩, q2, q3⟩ := hQ
  exact OF.step (fun t z => st2.trans z) (k1 T' T'.heap ⟨⟨hx, hZ, hby, hml, hown, hnm, hr, hlk⟩, hz, Nat.le_trans hz' q2, rfl, _, X2, Fr.app N q3⟩ q1 q2)
theorem o_callV {index : Nat} {y z : MethodName} {K : String} {B' : ByteArray} {ml' wt : Nat} {rt' : Option FieldType} {rm : Room} {as : Array Value} {Q' : Option Value → Heap → Prop} {a : Addr} {argsL : List Value} {st : List Value} (W : OW p l e R s m args below meth c Z B ml own nm rt n0 z0 T h kk nn)
    (E : Exa Z h a K) (C : OCon l Z z B' ml' rt' [] rm as h n0 Q') (w1 : (Jvm.Cond.methodLink own index y).before a0 Z = true) (w2 : (Jvm.Cond.declares y).before a0 Z = true) (w5 : NotFace s y) (w6 : (Jvm.Cond.selects K y z).before a0 Z = true) (w7 : (Jvm.Cond.instanceMethod z).before a0 Z = true) (w3 : (Jvm.Cond.initialized z.cls).before a0 Z = true) (w4 : (Jvm.Cond.code z B' ml' rt').before a0 Z = true)
    (hy : y.cls ≠ "java/lang/invoke/MethodHandle" ∧ y.cls ≠ "java/lang/invoke/VarHandle") (hlen : ∀ sig, parseMethodDescriptor y.desc = some sig → argsL.length = sig.parameters.length) (has : (.ref a :: argsL).toArray = as) (hst : st = argsL.reverse ++ .ref a :: S) (hL : L.size = ml)
    (hwt : (S.map fun v => v.category).sum = wt) (hfr : rm.frames + 1 ≤ R.frames) (hlo : wt + (ml' + 11) + rm.locals ≤ R.locals) (hcl : kk + rm.cells ≤ R.cells) (hsl : nn + rm.slots ≤ R.slots) (hk' : kk + rm.cells = kk') (hn' : nn + rm.slots = nn')
    (hd : decode B pc = .ok (.invokevirtual index, 3)) (hp : pc + 3 = pc')
    (k1 : ∀ v T' h', OW p l e R s m args below meth c Z B ml own nm rt n0 z0 T' h' kk' nn' → Q' v h' → h.size ≤ h'.size → OF p e below n1 z1 EN Q T' (mkF m pc' L (v.toList ++ S))) : OF p e below n1 z1 EN Q T (mkF m pc L st) := by
  subst hp has hk' hn' hst
  obtain ⟨cx, hz, hz', eT, locs, X, N⟩ := W
  obtain ⟨hx, hZ, hby, hml, hown, hnm, hr, hlk⟩ := cx
  obtain ⟨cq, kq, qa, qb, qc⟩ := isOf hZ eT E
  obtain ⟨v, _, ⟨T', L2, k2, n2⟩, -, X2, ⟨Lc, hQ, l2, y2, z2⟩, st2⟩ := X.virtualBack hx (y := y) (z := z) hown (mvT hZ w1) (mvT hZ w2) w5 (mvT hZ w6) (mvT hZ w7) hy (backOf (W := wt) (Q := OQ Q' h.size n0) C hZ w4 w3 hfr hlo) qa qc (g := mkF m pc L (argsL.reverse ++ .ref a :: S)) rfl (hL.trans hml.symm) (Steps.refl _) (argsL := argsL) (rest := S) hlen rfl
    (by show 2 * 0 + _ ≤ _; rw [hwt]; omega) (hb hby hd) (fun _ _ => ⟨rfl, eT, hcl, hsl⟩)
  dsimp only [Pt.U, Pt.locs, Pt.cells, Pt.slots] at X2 l2 y2 z2 st2 hQ
  subst l2 y2 z2
  obtain ⟨q1, q2, q3⟩ := hQ
  exact OF.step (fun t z => st2.trans z) (k1 v T' T'.heap ⟨⟨hx, hZ, hby, hml, hown, hnm, hr, hlk⟩, hz, Nat.le_trans hz' q2, rfl, _, X2, Fr.app N q3⟩ q1 q2)
end OwnKit
theorem ow {a0 : Array Value} {Z : State} (hw : ∀ d ∈ tables_1, d.before a0 Z = true) (k : Nat) {d : Jvm.Cond} (h : tables_1[k]? = some d) : d.before a0 Z = true := hw _ (List.mem_of_getElem? h)
section OwnKit3
variable {p : Program} {l : Launch} {e : Env} {R : Room} {s : State} {m : MethodId} {args : Array Value} {below : List Frame} {meth : Method} {c : Code} {Z : State} {B : ByteArray} {ml : Nat} {own nm : String} {rt : Option FieldType} {n0 z0 n1 z1 kc ns : Nat} {EN : Outcome → State → List Loc → Prop} {T : State} {h h' : Heap} {kk nn kk' nn' : Nat} {Q : Option Value → Heap → Prop} {pc pc' pq : Nat} {L L' : Array Slot} {S : List Value} {a0 : Array Value}
theorem o_aconstNull (W : OW p l e R s m args below meth c Z B ml own nm rt n0 z0 T h kk nn) (hd : decode B pc = .ok (.aconst_null, 1)) (hp : pc + 1 = pc') (k1 : OF p e below n1 z1 EN Q T (mkF m pc' L (.null :: S))) : OF p e below n1 z1 EN Q T (mkF m pc L S) := by
  subst hp; exact OF.step (fun t q => XS.aconstNull W.here W.hx rfl (hb W.by hd) q) k1
theorem o_getS {index : Nat} {O f d : String} {v : Value} (W : OW p l e R s m args below meth c Z B ml own nm rt n0 z0 T h kk nn) (w : (Jvm.Cond.fieldLink own index O f d).before a0 Z = true) (Fs : Sta Z h O f d v) (hd : decode B pc = .ok (.getstatic index, 3)) (hp : pc + 3 = pc')
    (k1 : ∀ T', OW p l e R s m args below meth c Z B ml own nm rt n0 z0 T' h kk nn → OF p e below n1 z1 EN Q T' (mkF m pc' L (v :: S))) : OF p e below n1 z1 EN Q T (mkF m pc L S) := by
  subst hp
  obtain ⟨cx, hz, hz', eT, locs, X, N⟩ := W
  obtain ⟨hx, hZ, hby, hml, hown, hnm, hr, hlk⟩ := cx
  obtain ⟨T', X', e', st⟩ := getS2 X hx hZ (host := "") hown (Or.inl w) Via.refl eT Fs (g := mkF m pc L S) rfl (hb hby hd)
  exact OF.step (fun t z => st t z) (k1 T' ⟨⟨hx, hZ, hby, hml, hown, hnm, hr, hlk⟩, hz, hz', e', _, X', N⟩)
theorem o_sta {C n d : String} {v : Value} {ws : List Addr} (F : Sta Z h C n d v) (K : Keep h h' ws) (hn : ∀ x ∈ ws, ∀ cell : Cell, h[x]? = some cell → cell.vm.isStatics = false) : Sta Z h' C n d v := by
  obtain ⟨cf, i, k, f, st, cell, h1, h2, h3, h4, h5, h6, h7⟩ := F
  have hnot : st ∉ ws := fun q => by have u := hn st q cell h5; rw [u] at h6; cases h6
  exact ⟨cf, i, k, f, st, cell, h1, h2, h3, h4, K.2.1 st cell h5 hnot, h6, h7⟩
/-- the statics that the walk reads -/
def OSt (Z : State) (h : Heap) (cs : Int32) (fm : Value) : Prop := Sta Z h "java/lang/String" "COMPACT_STRINGS" "Z" (.int cs) ∧ Sta Z h "java/lang/StringUTF16" "$assertionsDisabled" "Z" (.int 1) ∧ Sta Z h "java/lang/StringUTF16" "HI_BYTE_SHIFT" "I" (.int 0) ∧ Sta Z h "java/lang/StringUTF16" "LO_BYTE_SHIFT" "I" (.int 8) ∧ Sta Z h "jdk/internal/util/Preconditions" "SIOOBE_FORMATTER" "Ljava/util/function/BiFunction;" fm
theorem OSt.ext {cs : Int32} {fm : Value} (F : OSt Z h cs fm) (E : Ext h h') : OSt Z h' cs fm := ⟨Sta.ext E F.1, Sta.ext E F.2.1, Sta.ext E F.2.2.1, Sta.ext E F.2.2.2.1, Sta.ext E F.2.2.2.2⟩
theorem OSt.wr {cs : Int32} {fm : Value} {a : Addr} {sl : Nat} {v : Value} (F : OSt Z h cs fm) (E : Wr h h' a sl v) : OSt Z h' cs fm := ⟨Sta.wr E F.1, Sta.wr E F.2.1, Sta.wr E F.2.2.1, Sta.wr E F.2.2.2.1, Sta.wr E F.2.2.2.2⟩
theorem OSt.keepN {cs : Int32} {fm : Value} {ws : List Addr} (F : OSt Z h cs fm) (K : Keep h h' ws) (hn : ∀ x ∈ ws, ∀ cell : Cell, h[x]? = some cell → cell.vm.isStatics = false) : OSt Z h' cs fm := ⟨o_sta F.1 K hn, o_sta F.2.1 K hn, o_sta F.2.2.1 K hn, o_sta F.2.2.2.1 K hn, o_sta F.2.2.2.2 K hn⟩
theorem OSt.keepA {cs : Int32} {fm : Value} {a : Addr} {ty : FieldType} {xs : List Int32} (F : OSt Z h cs fm) (A : OA Z h a ty xs) (K : Keep h h' [a]) : OSt Z h' cs fm := F.keepN K fun x hx cell hc => by
  obtain ⟨_, _, cl, A, _⟩ := A
  rw [List.mem_singleton] at hx; subst hx
  cases hc.symm.trans A.1; exact A.plain
theorem OSt.keep0 {cs : Int32} {fm : Value} (F : OSt Z h cs fm) (K : Keep h h' []) : OSt Z h' cs fm := F.keepN K fun x hx => nomatch hx
/-- the end as the wide frame has it -/
def ENw (s : State) (kc ns : Nat) : Outcome → State → List Loc → Prop := fun o t L => Jvm.ReturnedEndW s o t L kc ns
theorem OA.of_arv {a : Addr} {k : ClassId} {ty : FieldType} {z : Int32} {xs : List Int32} {vs : List Value} {d : Value} (F : Arv Z h a k ty z vs d) (hvs : vs = xs.map Value.int) (hz : z.toInt = xs.length) : OA Z h a ty xs := by
  subst hvs
  obtain ⟨cl, A, -, S1, q3, H, G⟩ := F
  have hzl := z.toInt_lt
  have hsz : cl.slots.size = xs.length := by rw [S1, o_nat hz]
  refine ⟨by omega, fun x hx => ?_, cl, A, ?_⟩
  · obtain ⟨i, hi, rfl⟩ := List.getElem_of_mem hx
    have q := G i (by rw [hsz]; exact hi)
    have : (xs.map Value.int).getD i d = .int xs[i] := by simp [List.getD_eq_getElem?_getD, hi]
    rw [this] at q; exact q
  · apply Array.ext
    · rw [hsz]; simp
    · intro i h1 h2
      have q := H i h1
      rw [hsz] at h1
      rw [Array.getElem?_eq_getElem (by rw [hsz]; exact h1)] at q
      have : (xs.map Value.int).getD i d = .int xs[i] := by simp [List.getD_eq_getElem?_getD, h1]
      rw [this] at q
      rw [Option.some.inj q]; simp
theorem o_chvA {EL : List (String × Nat)} {vm : Vm} {a : Addr} {xs : List Int32} (H : CHv Z EL vm h) (hal : Z.vm.Alike vm) (A : OA Z h a .char xs) (K : Keep h h' [a]) : CHv Z EL vm h' := by
  obtain ⟨_, _, cl, A, _⟩ := A
  exact CHv.keep K (fun x hx => by rw [List.mem_singleton] at hx; subst hx; exact Safe.arr hal A (by decide)) H
/-- a contract whose body may load a String constant for the first time -/
def OConW (l : Launch) (Z : State) (EL : List (String × Nat)) (y : MethodName) (B : ByteArray) (ml : Nat) (rt : Option FieldType) (ws : List Jvm.Cond) (rm : Room) (as : Array Value) (h0 : Heap) (n0 : Nat) (Q : Option Value → Heap → Prop) : Prop :=
  MetFree l y (head1 (Jvm.Cond.code y B ml rt :: ws) rm) (fun a U => a = as ∧ Z.Warmed39 U.vm ∧ U.heap = h0 ∧ CHv Z EL U.vm h0) (fun _ _ _ _ _ => True)
    (fun _ U o U' => ∃ v L, o = .returned v ∧ OQ Q h0.size n0 v U'.heap L ∧ Jvm.ReturnedEndW U o U' L rm.cells rm.slots)
theorem OConW.mk {EL : List (String × Nat)} {y : MethodName} {ws : List Jvm.Cond} {rm : Room} {as : Array Value} {h0 : Heap} (hpl : plainFor y = true) (hz : n0 ≤ h0.size)
    (body : ∀ (p : Program) (e : Env) (s : State) (m : MethodId) (below : List Frame) (meth : Method) (c : Code) (s₁ : State), OW p l e rm s m as below meth c Z B ml y.cls y.name rt n0 h0.size s₁ h0 0 0 → CHv Z EL s.vm h0 → OF p e below n0 h0.size (ENw s rm.cells rm.slots) Q s₁ (entryFrame m as ml)) :
    OConW l Z EL y B ml rt ws rm as h0 n0 Q := by
  refine MetFree.of_bodySF hpl hisR ?_
  intro p e s m args below meth c s₁ Bd hml0 hP hK
  obtain ⟨rfl, hZ, hh, hC⟩ := hP
  exact body p e s m below meth c s₁ ⟨⟨Bd.exec, hZ, Bd.bytes, hml0, findClass_of_methodNamed Bd.named, (name_of_methodNamed Bd.named Bd.method).1, Bd.returns, Bd.notSynchronized⟩, hz, Nat.le_refl _, by rw [← hh, Bd.state]; rfl, [], Stand.of_body Bd, Fr.nil _⟩ hC
theorem o_ldcE {EL : List (String × Nat)} {index : Nat} (W : OW p l e R s m args below meth c Z B ml own nm rt n0 z0 T h kk nn) (w : (Jvm.Cond.stringLink own index "").before a0 Z = true) (wS : ∀ a ∈ Bundle.stringAtoms, a.before a0 Z = true) (hEL : EW Z a0 EL) (hmem : (own, index) ∈ EL) (H : CHv Z EL s.vm h)
    (hd : decode B pc = .ok (.ldc index, 2)) (hp : pc + 2 = pc') (hc : kk + 2 ≤ R.cells) (hl : nn + 4 ≤ R.slots) (hk' : kk + 2 = kk') (hn' : nn + 4 = nn')
    (k1 : ∀ T' h' vm1 kx a b, OW p l e R (s.setVm vm1) m args below meth c Z B ml own nm rt n0 z0 T' h' kk' nn' → s.Since vm1 kx → kx ≤ h'.size → Ext h h' → Exa Z h' a "java/lang/String" → Fld Z h' a "java/lang/String" "coder" "B" (.int (0 : Int32)) → Fld Z h' a "java/lang/String" "value" "[B" (.ref b) → OA Z h' b .byte [] → Lit (s.setVm vm1) own index a → OF p e below n1 z1 EN Q T' (mkF m pc' L (.ref a :: S))) : OF p e below n1 z1 EN Q T (mkF m pc L S) := by
  subst hp hk' hn'
  obtain ⟨cx, hz, hz', eT, locs, X, N⟩ := W
  obtain ⟨hx, hZ, hby, hml, hown, hnm, hr, hlk⟩ := cx
  obtain ⟨a, T', h', kx, b, k, X', e', E, hS, hkx, hW', hown', XA, FC, FV, AV, -, -, -, hL, -, st⟩ := ldcCH (s := s) (vm0 := s.vm) (show Stand p l e R (s.setVm s.vm) m args below meth c T locs kk nn from X) hx hZ hown w wS eT (k0 := h.size) ((State.WarmedH.refl s).since _) (Nat.le_refl _) hEL hmem H (vs := []) (z := 0) ⟨by decide, rfl⟩ (by decide) rfl (g := mkF m pc L S) rfl (hb hby hd) (n := 0) (by decide) (by decide) hc hl
  exact OF.step (fun t z => st t z) (k1 T' h' T'.vm kx a b ⟨⟨hx, hW', hby, hml, hown', hnm, hr, hlk⟩, hz, Nat.le_trans hz' E.1, e', _, X', N⟩ hS hkx E XA FC FV (OA.of_arv AV rfl rfl) hL)
theorem o_ldcA {index : Nat} {text : String} {a : Addr} {vm1 : Vm} (W : OW p l e R (s.setVm vm1) m args below meth c Z B ml own nm rt n0 z0 T h kk nn) (w : (Jvm.Cond.stringLink own index text).before a0 Z = true) (La : Lit (s.setVm vm1) own index a) (hd : decode B pc = .ok (.ldc index, 2)) (hp : pc + 2 = pc')
    (k1 : OF p e below n1 z1 EN Q T (mkF m pc' L (.ref a :: S))) : OF p e below n1 z1 EN Q T (mkF m pc L S) := by
  subst hp
  obtain ⟨cx, hz, hz', eT, locs, X, N⟩ := W
  obtain ⟨hx, hZ, hby, hml, hown, hnm, hr, hlk⟩ := cx
  exact OF.step (fun t z => ldcAgain (s := s) (vm0 := vm1) X hx hZ hown w La (g := mkF m pc L S) rfl (hb hby hd) t z) k1
theorem o_retVW {vm1 : Vm} {kx : Nat} (W : OW p l e R (s.setVm vm1) m args below meth c Z B ml own nm rt n0 z0 T h kk nn) (hS : s.Since vm1 kx) (hkx : kx ≤ h.size) (hrt : rt = none) (hd : decode B pc = .ok (.return_, 1)) (hk : kk ≤ kc) (hn : nn ≤ ns) (hQ : Q none h) :
    OF p e below n0 z0 (ENw s kc ns) Q T (mkF m pc L []) := by
  obtain ⟨⟨hx, hZ, hby, hml, hown, hnm, hr, hlk⟩, hz, hz', rfl, locs, X, N⟩ := W
  subst hrt
  obtain ⟨fs, hl, h1, h2, r1, r2, r3, r4⟩ := X.leaveW hS hkx (v := none) (fun _ => rfl) hlk
  exact ⟨_, _, X.returnOut hx hr (hb hby hd) hl, h1, h2, _, _, rfl, ⟨hQ, hz', N⟩, r1, r2, r3, r4.mono hk hn⟩
theorem o_retNW {t : FieldType} {z : Int32} {vm1 : Vm} {kx : Nat} (W : OW p l e R (s.setVm vm1) m args below meth c Z B ml own nm rt n0 z0 T h kk nn) (hS : s.Since vm1 kx) (hkx : kx ≤ h.size) (hrt : rt = some t) (ht : t = .boolean ∨ t = .byte ∨ t = .char ∨ t = .short) (hd : decode B pc = .ok (.ireturn, 1)) (hk : kk ≤ kc) (hn : nn ≤ ns) (hQ : Q (some (.int (nar t z))) h) :
    OF p e below n0 z0 (ENw s kc ns) Q T (mkF m pc L (.int z :: S)) := by
  obtain ⟨⟨hx, hZ, hby, hml, hown, hnm, hr, hlk⟩, hz, hz', rfl, locs, X, N⟩ := W
  subst hrt
  obtain ⟨fs, hl, h1, h2, r1, r2, r3, r4⟩ := X.leaveW hS hkx (v := some (.int (nar t z))) (fun q => by rw [hr] at q; cases q) hlk
  exact ⟨_, _, retN X hx hr ht (hb hby hd) hl, h1, h2, _, _, rfl, ⟨hQ, hz', N⟩, r1, r2, r3, r4.mono hk hn⟩
theorem o_backW {EL : List (String × Nat)} {y : MethodName} {B' : ByteArray} {ml' len wt : Nat} {rt' : Option FieldType} {rm : Room} {as : Array Value} {Q' : Option Value → Heap → Prop} (C : OConW l Z EL y B' ml' rt' [] rm as h n0 Q')
    (hZ : Z.Warmed39 s.vm) (wc : (Jvm.Cond.code y B' ml' rt').before a0 Z = true) (wz : (Jvm.Cond.initialized y.cls).before a0 Z = true) (hf : rm.frames + 1 ≤ R.frames) (hl : wt + (ml' + 11) + rm.locals ≤ R.locals) (hEL : EW Z a0 EL) (H : CHv Z EL s.vm h) :
    BackS l R p e below s args y len wt (fun A a => a = as ∧ A.U.heap = h ∧ A.cells + rm.cells ≤ R.cells ∧ A.slots + rm.slots ≤ R.slots)
      (fun A _ v B => ∃ L, OQ Q' h.size n0 v B.U.heap L ∧ B.locs = A.locs ++ L ∧ B.cells = A.cells + rm.cells ∧ B.slots = A.slots + rm.slots) := by
  refine BackS.of_freeW (bytes := B') (maxL := ml') (ret := rt') (E := fun _ _ o t L k n => k = rm.cells ∧ n = rm.slots ∧ ∃ v, o = .returned v ∧ OQ Q' h.size n0 v t.heap L) C hf hl ?_ ?_ (fun _ _ _ _ _ _ _ _ _ => trivial) ?_ ?_
  · intro m meth c A a Y hp
    have hU : Z.Warmed39 A.U.vm := wtrans hZ Y.warmed
    refine ⟨?_, mv hU wc, mv hU wz, hp.2.2.1, hp.2.2.2⟩
    show (Jvm.Cond.and _ .tt).before a A.U = true
    rw [Cond.before_and, mv hU wc]; rfl
  · intro m meth c A a g mk Y hp
    exact ⟨hp.1, wtrans hZ Y.warmed, hp.2.1, (CHv.at (s := s) (vm0 := s.vm) Y hZ hEL H).1⟩
  · rintro _ _ _ _ ⟨v, L, h1, h2, h3⟩
    exact ⟨L, _, _, h3, rfl, rfl, v, h1, h2⟩
  · rintro m meth c A a g mk v t L k n Y hp _ _ ⟨e1, e2, v', e3, e4⟩
    cases e3; subst e1 e2; exact ⟨L, e4, rfl, rfl, rfl⟩
theorem o_callCW {EL : List (String × Nat)} {index : Nat} {y : MethodName} {B' : ByteArray} {ml' wt : Nat} {rm : Room} {as : Array Value} {P' : Heap → Prop} {a : Addr} {argsL : List Value} {st : List Value} (W : OW p l e R s m args below meth c Z B ml own nm rt n0 z0 T h kk nn)
    (C : OConW l Z EL y B' ml' none [] rm as h n0 (QV P')) (hEL : EW Z a0 EL) (H : CHv Z EL s.vm h) (hy1 : y.name = "<init>") (w1 : (Jvm.Cond.methodLink own index y).before a0 Z = true) (w2 : (Jvm.Cond.instanceMethod y).before a0 Z = true) (w3 : (Jvm.Cond.initialized y.cls).before a0 Z = true) (w4 : (Jvm.Cond.code y B' ml' none).before a0 Z = true)
    (hy : y.cls ≠ "java/lang/invoke/MethodHandle" ∧ y.cls ≠ "java/lang/invoke/VarHandle") (hlen : ∀ sig, parseMethodDescriptor y.desc = some sig → argsL.length = sig.parameters.length) (has : (.ref a :: argsL).toArray = as) (hst : st = argsL.reverse ++ .ref a :: S) (hL : L.size = ml)
    (hwt : (S.map fun v => v.category).sum = wt) (hfr : rm.frames + 1 ≤ R.frames) (hlo : wt + (ml' + 11) + rm.locals ≤ R.locals) (hcl : kk + rm.cells ≤ R.cells) (hsl : nn + rm.slots ≤ R.slots) (hk' : kk + rm.cells = kk') (hn' : nn + rm.slots = nn')
    (hd : decode B pc = .ok (.invokespecial index, 3)) (hp : pc + 3 = pc')
    (k1 : ∀ T' h' vm1, OW p l e R (s.setVm vm1) m args below meth c Z B ml own nm rt n0 z0 T' h' kk' nn' → s.Since vm1 h'.size → P' h' → h.size ≤ h'.size → OF p e below n1 z1 EN Q T' (mkF m pc' L S)) : OF p e below n1 z1 EN Q T (mkF m pc L st) := by
  subst hp has hk' hn' hst
  obtain ⟨cx, hz, hz', eT, locs, X, N⟩ := W
  obtain ⟨hx, hZ, hby, hml, hown, hnm, hr, hlk⟩ := cx
  obtain ⟨v, _, ⟨T', L2, k2, n2⟩, -, X2, hS, hgr, ⟨Lc, hQ, l2, y2, z2⟩, st2⟩ := X.specialBackS hx (y := y) hy1 hown (mvT hZ w1) (mvT hZ w2) (mvT hZ w4) hy (o_backW C hZ w4 w3 hfr hlo hEL H) (g := mkF m pc L (argsL.reverse ++ .ref a :: S)) rfl (hL.trans hml.symm) (Steps.refl _) (a := a) (argsL := argsL) (rest := S) hlen rfl
    (by show 2 * 0 + _ ≤ _; rw [hwt]; omega) (hb hby hd) (fun _ _ => ⟨rfl, eT, hcl, hsl⟩)
  dsimp only [Pt.U, Pt.locs, Pt.cells, Pt.slots] at X2 l2 y2 z2 st2 hQ hS hgr
  subst l2 y2 z2
  obtain ⟨⟨rfl, q1⟩, q2, q3⟩ := hQ
  exact OF.step (fun t z => st2.trans z) (k1 T' T'.heap T'.vm ⟨⟨hx, State.Warmed39.trans hZ hS.1, hby, hml, (hS.1.alike.findClass _ _).trans hown, hnm, hr, hlk⟩, hz, Nat.le_trans hz' q2, rfl, _, X2, Fr.app N q3⟩ hS q1 q2)
end OwnKit3
theorem own_rng (x : Int32) : -2147483648 ≤ x.toInt ∧ x.toInt < 2147483648 := ⟨x.le_toInt, x.toInt_lt⟩
theorem own_lrng (x : Int64) : -9223372036854775808 ≤ x.toInt ∧ x.toInt < 9223372036854775808 := ⟨x.le_toInt, x.toInt_lt⟩
theorem own_rem (x y : Int32) : (x - (x / y) * y).toInt = x.toInt.tmod y.toInt := by
  have a := (x % y).toInt_lt; have b := (x % y).le_toInt
  rw [Int32.toInt_mod] at a b
  rw [Int32.toInt_sub, Int32.toInt_mul, Int32.toInt_div, Int.bmod_mul_bmod, Int.sub_bmod_bmod, Int.mul_comm, ← Int.tmod_def]
  exact Jvm.Kit.bmod32 b a
theorem own_remp {x y : Int32} (hx : 0 ≤ x.toInt) : (x - (x / y) * y).toInt = x.toInt % y.toInt := by rw [own_rem, Int.tmod_eq_emod_of_nonneg hx]
theorem own_char (x : Int32) : 0 ≤ (x.toUInt32.toUInt16.toUInt32.toInt32).toInt ∧ (x.toUInt32.toUInt16.toUInt32.toInt32).toInt ≤ 65535 := by
  have q := fits_nar_char x
  simp only [fits, nar, Bool.and_eq_true, decide_eq_true_eq, Int32.le_iff_toInt_le] at q
  exact q
theorem own_ix {x y : Int32} {n : Nat} (hx : 0 ≤ x.toInt) (hy : y.toInt = n) (hn : 0 < n) : ∃ i : Nat, (x - x / y * y).toInt = i ∧ i < n := by
  have h := own_remp (y := y) hx
  rw [hy] at h
  have h1 := Int.emod_nonneg x.toInt (b := (n : Int)) (by omega)
  have h2 := Int.emod_lt_of_pos x.toInt (b := (n : Int)) (by omega)
  exact ⟨(x.toInt % n).toNat, by omega, by omega⟩
theorem own_nz {v : Int32} {n : Nat} (h : v.toInt = n) (hn : 0 < n) : v ≠ 0 := fun e => by
  rw [e] at h; have c0 : (0 : Int32).toInt = 0 := rfl; omega
theorem own_and31 (x : Int32) : 0 ≤ (x &&& 2147483647).toInt := by
  have h1 : (x &&& 2147483647).toInt = x.toInt % 2147483648 := Jvm.Kit.i32_mask x 2147483647 (k := 31) (by decide) (by decide)
  omega
theorem own_ushr (x : Int32) {n : UInt32} {k : Nat} (hn : n.toNat = k) (h0 : 0 < k) (hk : k < 32) : ((x.toUInt32 >>> n).toInt32).toInt = ((x.toUInt32.toNat / 2 ^ k : Nat) : Int) := by
  have e : ((x.toUInt32 >>> n).toInt32).toInt = ((x.toUInt32 >>> n).toBitVec).toInt := rfl
  have q : (x.toUInt32 >>> n).toBitVec.toNat = x.toUInt32.toNat / 2 ^ k := by
    show (x.toUInt32 >>> n).toNat = _
    rw [UInt32.toNat_shiftRight, hn, Nat.mod_eq_of_lt hk, Nat.shiftRight_eq_div_pow]
  have lt := x.toUInt32.toNat_lt
  have p1 : 2 ^ 1 ≤ 2 ^ k := Nat.pow_le_pow_right (by decide) h0
  have p2 : x.toUInt32.toNat / 2 ^ k ≤ x.toUInt32.toNat / 2 ^ 1 := Nat.div_le_div_left p1 (by decide)
  rw [e, BitVec.toInt_eq_toNat_cond, q, if_pos (by omega)]
theorem own_ushr1 (x : Int32) : 0 ≤ ((x.toUInt32 >>> ((1 : Int32) &&& 31).toUInt32).toInt32).toInt := by
  rw [own_ushr x (k := 1) (by decide) (by decide) (by decide)]; omega
theorem own_nn {v : Int32} (h : 0 ≤ v.toInt) : v.toBitVec.toNat = v.toInt.toNat := by
  have q : v.toInt = v.toBitVec.toInt := rfl
  rw [BitVec.toInt_eq_toNat_cond] at q
  have := v.toBitVec.isLt
  split at q <;> omega
theorem own_lnn {v : Int64} (h : 0 ≤ v.toInt) : v.toBitVec.toNat = v.toInt.toNat := by
  have q : v.toInt = v.toBitVec.toInt := rfl
  rw [BitVec.toInt_eq_toNat_cond] at q
  have := v.toBitVec.isLt
  split at q <;> omega
theorem own_bmod8 (a : Int) : (a.bmod (2 ^ 8)) % 256 = a % 256 := by rw [Int.bmod_def]; split <;> omega
theorem own_i8 {x y : Int32} (h : x.toInt % 256 = y.toInt % 256) : x.toInt8 = y.toInt8 := by
  apply Int8.toInt_inj.mp
  rw [Int32.toInt_toInt8, Int32.toInt_toInt8, Int.bmod_def, Int.bmod_def]
  have p8 : ((2 ^ 8 : Nat) : Int) = 256 := rfl
  rw [p8, h]
theorem own_dbl (x : Int32) : (x.toInt8.toInt32).toInt8.toInt32 = x.toInt8.toInt32 := by
  have : (x.toInt8.toInt32).toInt8 = x.toInt8 := by
    apply own_i8
    rw [Int8.toInt_toInt32, Int32.toInt_toInt8, own_bmod8]
  rw [this]
def own_b (k : Int32) : Int32 := (k.toInt8.toInt32).toInt8.toInt32
def own_lo (k : Int32) : Int32 := ((k >>> ((0 : Int32) &&& 31)).toInt8.toInt32).toInt8.toInt32
def own_hi (k : Int32) : Int32 := ((k >>> ((8 : Int32) &&& 31)).toInt8.toInt32).toInt8.toInt32
def own_gc (lo hi : Int32) : Int32 := ((((lo &&& 255) <<< ((0 : Int32) &&& 31)) ||| ((hi &&& 255) <<< ((8 : Int32) &&& 31))).toUInt32.toUInt16.toUInt32.toInt32).toUInt32.toUInt16.toUInt32.toInt32
theorem own_i2c {v : Int32} (h0 : 0 ≤ v.toInt) (h1 : v.toInt ≤ 65535) : v.toUInt32.toUInt16.toUInt32.toInt32 = v := by
  apply Int32.toBitVec_inj.mp
  apply BitVec.eq_of_toNat_eq
  have e := own_nn h0
  show (v.toUInt32.toUInt16.toUInt32).toNat = v.toUInt32.toNat
  have e2 : v.toUInt32.toNat = v.toBitVec.toNat := rfl
  rw [UInt16.toNat_toUInt32, UInt32.toNat_toUInt16, e2, e]
  exact Nat.mod_eq_of_lt (by omega)
theorem own_bcmp (k y : Int32) (h0 : 0 ≤ k.toInt) (h1 : k.toInt ≤ 255) (h2 : 0 ≤ y.toInt) (h3 : y.toInt < 128) : (own_b k).toInt = (y.toInt8.toInt32).toInt ↔ k.toInt = y.toInt := by
  have e : own_b k = k.toInt8.toInt32 := own_dbl k
  rw [e, Int8.toInt_toInt32, Int8.toInt_toInt32, Int32.toInt_toInt8, Int32.toInt_toInt8, Int.bmod_def, Int.bmod_def]
  have p8 : ((2 ^ 8 : Nat) : Int) = 256 := rfl
  rw [p8]
  split <;> split <;> omega
theorem own_low8 (u : Int32) : (((u.toInt8.toInt32).toInt8.toInt32) &&& 255).toInt = u.toInt % 256 := by
  have e : (((u.toInt8.toInt32).toInt8.toInt32) &&& 255).toInt = ((u.toInt8.toInt32).toInt8.toInt32).toInt % 2 ^ 8 := Jvm.Kit.i32_mask _ 255 (k := 8) (by decide) (by decide)
  rw [e, Int8.toInt_toInt32, Int32.toInt_toInt8, Int8.toInt_toInt32, Int32.toInt_toInt8]
  have p8 : ((2 : Int) ^ 8) = 256 := rfl
  rw [p8, own_bmod8, own_bmod8]
theorem own_gcv (k : Int32) (h0 : 0 ≤ k.toInt) (h1 : k.toInt ≤ 65535) : own_gc (own_lo k) (own_hi k) = k := by
  have s0 : (k >>> ((0 : Int32) &&& 31)).toInt = k.toInt / 2 ^ 0 := Jvm.Kit.i32_shr k _ (by decide)
  have s8 : (k >>> ((8 : Int32) &&& 31)).toInt = k.toInt / 2 ^ 8 := Jvm.Kit.i32_shr k _ (by decide)
  have a1 : (own_lo k &&& 255).toInt = k.toInt % 256 := by
    show ((((k >>> ((0 : Int32) &&& 31)).toInt8.toInt32).toInt8.toInt32) &&& 255).toInt = _
    rw [own_low8, s0]; omega
  have b1 : (own_hi k &&& 255).toInt = k.toInt / 256 := by
    show ((((k >>> ((8 : Int32) &&& 31)).toInt8.toInt32).toInt8.toInt32) &&& 255).toInt = _
    rw [own_low8, s8]; omega
  have a2 : ((own_lo k &&& 255) <<< ((0 : Int32) &&& 31)).toInt = (own_lo k &&& 255).toInt * 2 ^ 0 := Jvm.Kit.i32_shl _ _ (by decide) (by omega) (by omega)
  have b2 : ((own_hi k &&& 255) <<< ((8 : Int32) &&& 31)).toInt = (own_hi k &&& 255).toInt * 2 ^ 8 := Jvm.Kit.i32_shl _ _ (by decide) (by omega) (by omega)
  have q : ((own_lo k &&& 255) <<< ((0 : Int32) &&& 31)) ||| ((own_hi k &&& 255) <<< ((8 : Int32) &&& 31)) = k := by
    generalize ((own_lo k &&& 255) <<< ((0 : Int32) &&& 31)) = u at *
    generalize ((own_hi k &&& 255) <<< ((8 : Int32) &&& 31)) = w at *
    apply Int32.toBitVec_inj.mp
    apply BitVec.eq_of_toNat_eq
    have e : (u ||| w).toBitVec = u.toBitVec ||| w.toBitVec := rfl
    rw [e, BitVec.toNat_or, own_nn (v := u) (by omega), own_nn (v := w) (by omega), own_nn h0, Nat.or_comm]
    have e2 : w.toInt.toNat = (k.toInt / 256).toNat <<< 8 := by rw [Nat.shiftLeft_eq]; omega
    rw [e2, ← Nat.shiftLeft_add_eq_or_of_lt (by omega), Nat.shiftLeft_eq]
    omega
  show ((((own_lo k &&& 255) <<< ((0 : Int32) &&& 31)) ||| ((own_hi k &&& 255) <<< ((8 : Int32) &&& 31))).toUInt32.toUInt16.toUInt32.toInt32).toUInt32.toUInt16.toUInt32.toInt32 = k
  rw [q, own_i2c h0 h1, own_i2c h0 h1]
theorem own_dblx {y : Int32} {i : Nat} (h : y.toInt = i) (hi : i < 1000) : (y <<< ((1 : Int32) &&& 31)).toInt = ((2 * i : Nat) : Int) := by
  rw [Jvm.Kit.i32_shl y _ (k := 1) (by decide) (by omega) (by omega)]; omega
theorem own_len5 (x : Int32) : (x &&& 7) - (x &&& 7) / 5 * 5 = 0 ∨ (x &&& 7) - (x &&& 7) / 5 * 5 = 1 ∨ (x &&& 7) - (x &&& 7) / 5 * 5 = 2 ∨ (x &&& 7) - (x &&& 7) / 5 * 5 = 3 ∨ (x &&& 7) - (x &&& 7) / 5 * 5 = 4 := by
  have h7 : (x &&& 7).toInt = x.toInt % 8 := Jvm.Kit.i32_mask x 7 (k := 3) (by decide) (by decide)
  obtain ⟨i, h1, h2⟩ := own_ix (x := x &&& 7) (by omega) (y := 5) (n := 5) rfl (by decide)
  have h5 : i = 0 ∨ i = 1 ∨ i = 2 ∨ i = 3 ∨ i = 4 := by omega
  rcases h5 with rfl | rfl | rfl | rfl | rfl
  · exact Or.inl (o_eq h1)
  · exact Or.inr (Or.inl (o_eq h1))
  · exact Or.inr (Or.inr (Or.inl (o_eq h1)))
  · exact Or.inr (Or.inr (Or.inr (Or.inl (o_eq h1))))
  · exact Or.inr (Or.inr (Or.inr (Or.inr (o_eq h1))))
theorem own_pn0 : plainName "com/example/austere_access/austereaccess/policy/GlobIsLiteralPinLaw" = true := by first | (simp [plainName, overriddenIn]; done) | decide +kernel
theorem own_ef1 (m : MethodId) (z0 : Int32) : entryFrame m #[(.int z0)] 2 = mkF m 0 #[.val (.int z0), .unset] [] := by first | (simp [entryFrame, mkF, argsToLocals, Value.category]; done) | rfl
theorem own_d1_0 : decode method_2_code 0 = .ok (.iload_n 0, 1) := by decide +kernel
theorem own_d1_1 : decode method_2_code 1 = .ok (.iconst 3, 1) := by decide +kernel
theorem own_d1_2 : decode method_2_code 2 = .ok (.iand, 1) := by decide +kernel
theorem own_d1_3 : decode method_2_code 3 = .ok (.istore_n 1, 1) := by decide +kernel
theorem own_d1_4 : decode method_2_code 4 = .ok (.iload_n 1, 1) := by decide +kernel
theorem own_d1_5 : decode method_2_code 5 = .ok (.ifCond .ne 6, 3) := by decide +kernel
theorem own_d1_11 : decode method_2_code 11 = .ok (.iload_n 1, 1) := by decide +kernel
theorem own_d1_12 : decode method_2_code 12 = .ok (.iconst 1, 1) := by decide +kernel
theorem own_d1_13 : decode method_2_code 13 = .ok (.if_icmp .ne 6, 3) := by decide +kernel
theorem own_d1_19 : decode method_2_code 19 = .ok (.iload_n 0, 1) := by decide +kernel
theorem own_d1_20 : decode method_2_code 20 = .ok (.iconst 2, 1) := by decide +kernel
theorem own_d1_21 : decode method_2_code 21 = .ok (.iushr, 1) := by decide +kernel
theorem own_d1_22 : decode method_2_code 22 = .ok (.ldc 7, 2) := by decide +kernel
theorem own_d1_24 : decode method_2_code 24 = .ok (.iand, 1) := by decide +kernel
theorem own_d1_25 : decode method_2_code 25 = .ok (.i2c, 1) := by decide +kernel
theorem own_d1_26 : decode method_2_code 26 = .ok (.ireturn, 1) := by decide +kernel
theorem own_d1_16 : decode method_2_code 16 = .ok (.bipush 63, 2) := by decide +kernel
theorem own_d1_18 : decode method_2_code 18 = .ok (.ireturn, 1) := by decide +kernel
theorem own_d1_8 : decode method_2_code 8 = .ok (.bipush 42, 2) := by decide +kernel
theorem own_d1_10 : decode method_2_code 10 = .ok (.ireturn, 1) := by decide +kernel
set_option maxRecDepth 65536 in
set_option maxHeartbeats 4000000 in
theorem rm1 (l : Launch) (Z : State) (a0 : Array Value) (hw : ∀ d ∈ tables_1, d.before a0 Z = true) (y0 : Int32) (h0 : Heap) (n0 : Nat) (Z0 : n0 ≤ h0.size) :
    OCon l Z (⟨"com/example/austere_access/austereaccess/policy/GlobIsLiteralPinLaw", "ch", "(I)C"⟩ : MethodName) method_2_code 2 (some .char) [] ({ frames := 0, cells := 0, slots := 0, locals := 0 } : Room) #[(.int y0)] h0 n0 (QI fun r h' => (0 ≤ r.toInt ∧ r.toInt ≤ 65535) ∧ h0 = h') := by
  refine OCon.mk (plainFor_of_name own_pn0) Z0 ?_
  intro p e s m below meth cd s₁ W0
  refine OF.cast (own_ef1 m y0) ?_
  have c_1___Int32_ : (1 : Int32).toInt = 1 := rfl
  refine o_iloadN W0 own_d1_0 (v := y0) rfl (pc' := 1) rfl ?_
  refine o_iconst W0 (v := (3 : Int32)) own_d1_1 rfl (pc' := 2) rfl ?_
  refine o_iand W0 own_d1_2 (pc' := 3) rfl ?_
  refine o_istoreNG W0 (Lf := fun v1 => #[.val (.int y0), .val (.int v1)]) own_d1_3 rfl (pc' := 4) rfl ?_
  intro v1 hv1
  refine o_iloadN W0 own_d1_4 (v := v1) rfl (pc' := 5) rfl ?_
  refine o_if_ne W0 own_d1_5 (by decide) (pq := 11) (by decide) (pc' := 8) rfl (fun hc5 => ?_) (fun hc5 => ?_)
  · refine o_iloadN W0 own_d1_11 (v := v1) rfl (pc' := 12) rfl ?_
    refine o_iconst W0 (v := (1 : Int32)) own_d1_12 rfl (pc' := 13) rfl ?_
    refine o_icmp_ne W0 own_d1_13 (by decide) (pq := 19) (by decide) (pc' := 16) rfl (fun hc13 => ?_) (fun hc13 => ?_)
    · refine o_iloadN W0 own_d1_19 (v := y0) rfl (pc' := 20) rfl ?_
      refine o_iconst W0 (v := (2 : Int32)) own_d1_20 rfl (pc' := 21) rfl ?_
      refine o_iushr W0 own_d1_21 (pc' := 22) rfl ?_
      refine o_ldc W0 (ow hw 4 rfl) own_d1_22 (pc' := 24) rfl ?_
      refine o_iand W0 own_d1_24 (pc' := 25) rfl ?_
      refine o_i2c W0 own_d1_25 (pc' := 26) rfl ?_
      refine o_retN W0 (t := .char) rfl (by simp) own_d1_26 (by decide) (by decide) ?_
      exact ⟨_, rfl, own_char ((((y0.toUInt32 >>> ((2 : Int32) &&& 31).toUInt32).toInt32) &&& (65535 : Int32)).toUInt32.toUInt16.toUInt32.toInt32), rfl⟩
    · refine o_bipush W0 (v := (63 : Int32)) own_d1_16 rfl (pc' := 18) rfl ?_
      refine o_retN W0 (t := .char) rfl (by simp) own_d1_18 (by decide) (by decide) ?_
      exact ⟨_, rfl, own_char (63 : Int32), rfl⟩
  · refine o_bipush W0 (v := (42 : Int32)) own_d1_8 rfl (pc' := 10) rfl ?_
    refine o_retN W0 (t := .char) rfl (by simp) own_d1_10 (by decide) (by decide) ?_
    exact ⟨_, rfl, own_char (42 : Int32), rfl⟩
theorem own_ef18 (m : MethodId) (z0 : Int32) : entryFrame m #[(.int z0)] 1 = mkF m 0 #[.val (.int z0)] [] := by first | (simp [entryFrame, mkF, argsToLocals, Value.category]; done) | rfl
theorem own_d18_0 : decode method_3_code 0 = .ok (.iload_n 0, 1) := by decide +kernel
theorem own_d18_1 : decode method_3_code 1 = .ok (.bipush 42, 2) := by decide +kernel
theorem own_d18_3 : decode method_3_code 3 = .ok (.if_icmp .eq 9, 3) := by decide +kernel
theorem own_d18_12 : decode method_3_code 12 = .ok (.iconst 1, 1) := by decide +kernel
theorem own_d18_13 : decode method_3_code 13 = .ok (.goto 4, 3) := by decide +kernel
theorem own_d18_17 : decode method_3_code 17 = .ok (.ireturn, 1) := by decide +kernel
theorem own_d18_6 : decode method_3_code 6 = .ok (.iload_n 0, 1) := by decide +kernel
theorem own_d18_7 : decode method_3_code 7 = .ok (.bipush 63, 2) := by decide +kernel
theorem own_d18_9 : decode method_3_code 9 = .ok (.if_icmp .ne 7, 3) := by decide +kernel
theorem own_d18_16 : decode method_3_code 16 = .ok (.iconst 0, 1) := by decide +kernel
set_option maxRecDepth 65536 in
set_option maxHeartbeats 4000000 in
theorem rm18 (l : Launch) (Z : State) (a0 : Array Value) (hw : ∀ d ∈ tables_1, d.before a0 Z = true) (y0 : Int32) (h0 : Heap) (n0 : Nat) (Z0 : n0 ≤ h0.size) :
    OCon l Z (⟨"com/example/austere_access/austereaccess/policy/GlobIsLiteralPinLaw", "wild", "(C)Z"⟩ : MethodName) method_3_code 1 (some .boolean) [] ({ frames := 0, cells := 0, slots := 0, locals := 0 } : Room) #[(.int y0)] h0 n0 (QI fun r h' => ((r = 1 ∧ (y0.toInt = 42 ∨ y0.toInt = 63)) ∨ (r = 0 ∧ ¬ (y0.toInt = 42 ∨ y0.toInt = 63))) ∧ h0 = h') := by
  refine OCon.mk (plainFor_of_name own_pn0) Z0 ?_
  intro p e s m below meth cd s₁ W0
  refine OF.cast (own_ef18 m y0) ?_
  have c_42___Int32_ : (42 : Int32).toInt = 42 := rfl
  have c_63___Int32_ : (63 : Int32).toInt = 63 := rfl
  refine o_iloadN W0 own_d18_0 (v := y0) rfl (pc' := 1) rfl ?_
  refine o_bipush W0 (v := (42 : Int32)) own_d18_1 rfl (pc' := 3) rfl ?_
  refine o_icmp_eq W0 own_d18_3 (by decide) (pq := 12) (by decide) (pc' := 6) rfl (fun hc3 => ?_) (fun hc3 => ?_)
  · refine o_iconst W0 (v := (1 : Int32)) own_d18_12 rfl (pc' := 13) rfl ?_
    refine o_goto W0 own_d18_13 (by decide) (pq := 17) (by decide) ?_
    refine o_retN W0 (t := .boolean) rfl (by simp) own_d18_17 (by decide) (by decide) ?_
    exact ⟨(1 : Int32), rfl, Or.inl ⟨rfl, by omega⟩, rfl⟩
  · refine o_iloadN W0 own_d18_6 (v := y0) rfl (pc' := 7) rfl ?_
    refine o_bipush W0 (v := (63 : Int32)) own_d18_7 rfl (pc' := 9) rfl ?_
    refine o_icmp_ne W0 own_d18_9 (by decide) (pq := 16) (by decide) (pc' := 12) rfl (fun hc9 => ?_) (fun hc9 => ?_)
    · refine o_iconst W0 (v := (0 : Int32)) own_d18_16 rfl (pc' := 17) rfl ?_
      refine o_retN W0 (t := .boolean) rfl (by simp) own_d18_17 (by decide) (by decide) ?_
      exact ⟨(0 : Int32), rfl, Or.inr ⟨rfl, by omega⟩, rfl⟩
    · refine o_iconst W0 (v := (1 : Int32)) own_d18_12 rfl (pc' := 13) rfl ?_
      refine o_goto W0 own_d18_13 (by decide) (pq := 17) (by decide) ?_
      refine o_retN W0 (t := .boolean) rfl (by simp) own_d18_17 (by decide) (by decide) ?_
      exact ⟨(1 : Int32), rfl, Or.inl ⟨rfl, by omega⟩, rfl⟩
theorem own_ef13 (m : MethodId) (z0 : Int32) (z1 : Int32) : entryFrame m #[(.int z0), (.int z1)] 2 = mkF m 0 #[.val (.int z0), .val (.int z1)] [] := by first | (simp [entryFrame, mkF, argsToLocals, Value.category]; done) | rfl
theorem own_d13_0 : decode jdk_29_method_65_code 0 = .ok (.iload_n 0, 1) := by decide +kernel
theorem own_d13_1 : decode jdk_29_method_65_code 1 = .ok (.iload_n 1, 1) := by decide +kernel
theorem own_d13_2 : decode jdk_29_method_65_code 2 = .ok (.if_icmp .lt 7, 3) := by decide +kernel
theorem own_d13_9 : decode jdk_29_method_65_code 9 = .ok (.iload_n 1, 1) := by decide +kernel
theorem own_d13_10 : decode jdk_29_method_65_code 10 = .ok (.ireturn, 1) := by decide +kernel
theorem own_d13_5 : decode jdk_29_method_65_code 5 = .ok (.iload_n 0, 1) := by decide +kernel
theorem own_d13_6 : decode jdk_29_method_65_code 6 = .ok (.goto 4, 3) := by decide +kernel
set_option maxRecDepth 65536 in
set_option maxHeartbeats 4000000 in
theorem rm13 (l : Launch) (Z : State) (a0 : Array Value) (hw : ∀ d ∈ tables_1, d.before a0 Z = true) (y0 : Int32) (y1 : Int32) (h0 : Heap) (n0 : Nat) (Z0 : n0 ≤ h0.size) :
    OCon l Z (⟨"java/lang/Math", "max", "(II)I"⟩ : MethodName) jdk_29_method_65_code 2 (some .int) [] ({ frames := 0, cells := 0, slots := 0, locals := 0 } : Room) #[(.int y0), (.int y1)] h0 n0 (QI fun r h' => ((y1.toInt ≤ y0.toInt ∧ r = y0) ∨ (y0.toInt < y1.toInt ∧ r = y1)) ∧ h0 = h') := by
  refine OCon.mk (Jvm.Free.JP.mathPlain rfl (by decide +kernel)) Z0 ?_
  intro p e s m below meth cd s₁ W0
  refine OF.cast (own_ef13 m y0 y1) ?_
  refine o_iloadN W0 own_d13_0 (v := y0) rfl (pc' := 1) rfl ?_
  refine o_iloadN W0 own_d13_1 (v := y1) rfl (pc' := 2) rfl ?_
  refine o_icmp_lt W0 own_d13_2 (by decide) (pq := 9) (by decide) (pc' := 5) rfl (fun hc2 => ?_) (fun hc2 => ?_)
  · refine o_iloadN W0 own_d13_9 (v := y1) rfl (pc' := 10) rfl ?_
    refine o_retI W0 rfl own_d13_10 (by decide) (by decide) ?_
    exact ⟨_, rfl, Or.inr ⟨by omega, rfl⟩, rfl⟩
  · refine o_iloadN W0 own_d13_5 (v := y0) rfl (pc' := 6) rfl ?_
    refine o_goto W0 own_d13_6 (by decide) (pq := 10) (by decide) ?_
    refine o_retI W0 rfl own_d13_10 (by decide) (by decide) ?_
    exact ⟨_, rfl, Or.inl ⟨by omega, rfl⟩, rfl⟩
theorem own_ef14 (m : MethodId) (z0 : Int32) (z1 : Int32) : entryFrame m #[(.int z0), (.int z1)] 2 = mkF m 0 #[.val (.int z0), .val (.int z1)] [] := by first | (simp [entryFrame, mkF, argsToLocals, Value.category]; done) | rfl
theorem own_d14_0 : decode jdk_29_method_69_code 0 = .ok (.iload_n 0, 1) := by decide +kernel
theorem own_d14_1 : decode jdk_29_method_69_code 1 = .ok (.iload_n 1, 1) := by decide +kernel
theorem own_d14_2 : decode jdk_29_method_69_code 2 = .ok (.if_icmp .gt 7, 3) := by decide +kernel
theorem own_d14_9 : decode jdk_29_method_69_code 9 = .ok (.iload_n 1, 1) := by decide +kernel
theorem own_d14_10 : decode jdk_29_method_69_code 10 = .ok (.ireturn, 1) := by decide +kernel
theorem own_d14_5 : decode jdk_29_method_69_code 5 = .ok (.iload_n 0, 1) := by decide +kernel
theorem own_d14_6 : decode jdk_29_method_69_code 6 = .ok (.goto 4, 3) := by decide +kernel
set_option maxRecDepth 65536 in
set_option maxHeartbeats 4000000 in
theorem rm14 (l : Launch) (Z : State) (a0 : Array Value) (hw : ∀ d ∈ tables_1, d.before a0 Z = true) (y0 : Int32) (y1 : Int32) (h0 : Heap) (n0 : Nat) (Z0 : n0 ≤ h0.size) :
    OCon l Z (⟨"java/lang/Math", "min", "(II)I"⟩ : MethodName) jdk_29_method_69_code 2 (some .int) [] ({ frames := 0, cells := 0, slots := 0, locals := 0 } : Room) #[(.int y0), (.int y1)] h0 n0 (QI fun r h' => ((y0.toInt ≤ y1.toInt ∧ r = y0) ∨ (y1.toInt < y0.toInt ∧ r = y1)) ∧ h0 = h') := by
  refine OCon.mk (Jvm.Free.JP.mathPlain rfl (by decide +kernel)) Z0 ?_
  intro p e s m below meth cd s₁ W0
  refine OF.cast (own_ef14 m y0 y1) ?_
  refine o_iloadN W0 own_d14_0 (v := y0) rfl (pc' := 1) rfl ?_
  refine o_iloadN W0 own_d14_1 (v := y1) rfl (pc' := 2) rfl ?_
  refine o_icmp_gt W0 own_d14_2 (by decide) (pq := 9) (by decide) (pc' := 5) rfl (fun hc2 => ?_) (fun hc2 => ?_)
  · refine o_iloadN W0 own_d14_9 (v := y1) rfl (pc' := 10) rfl ?_
    refine o_retI W0 rfl own_d14_10 (by decide) (by decide) ?_
    exact ⟨_, rfl, Or.inr ⟨by omega, rfl⟩, rfl⟩
  · refine o_iloadN W0 own_d14_5 (v := y0) rfl (pc' := 6) rfl ?_
    refine o_goto W0 own_d14_6 (by decide) (pq := 10) (by decide) ?_
    refine o_retI W0 rfl own_d14_10 (by decide) (by decide) ?_
    exact ⟨_, rfl, Or.inl ⟨by omega, rfl⟩, rfl⟩
theorem own_pn1 : plainName "java/lang/StringLatin1" = true := by first | (simp [plainName, overriddenIn]; done) | decide +kernel
theorem own_ef12 (m : MethodId) (z0 : Int32) : entryFrame m #[(.int z0)] 1 = mkF m 0 #[.val (.int z0)] [] := by first | (simp [entryFrame, mkF, argsToLocals, Value.category]; done) | rfl
theorem own_d12_0 : decode jdk_43_method_4_code 0 = .ok (.iload_n 0, 1) := by decide +kernel
theorem own_d12_1 : decode jdk_43_method_4_code 1 = .ok (.ifCond .lt 14, 3) := by decide +kernel
theorem own_d12_4 : decode jdk_43_method_4_code 4 = .ok (.iload_n 0, 1) := by decide +kernel
theorem own_d12_5 : decode jdk_43_method_4_code 5 = .ok (.sipush 255, 3) := by decide +kernel
theorem own_d12_8 : decode jdk_43_method_4_code 8 = .ok (.if_icmp .gt 7, 3) := by decide +kernel
theorem own_d12_11 : decode jdk_43_method_4_code 11 = .ok (.iconst 1, 1) := by decide +kernel
theorem own_d12_12 : decode jdk_43_method_4_code 12 = .ok (.goto 4, 3) := by decide +kernel
theorem own_d12_16 : decode jdk_43_method_4_code 16 = .ok (.ireturn, 1) := by decide +kernel
set_option maxRecDepth 65536 in
set_option maxHeartbeats 4000000 in
theorem rm12 (l : Launch) (Z : State) (a0 : Array Value) (hw : ∀ d ∈ tables_1, d.before a0 Z = true) (y0 : Int32) (h0 : Heap) (n0 : Nat) (Z0 : n0 ≤ h0.size) (hy : 0 ≤ y0.toInt ∧ y0.toInt ≤ 255) :
    OCon l Z (⟨"java/lang/StringLatin1", "canEncode", "(I)Z"⟩ : MethodName) jdk_43_method_4_code 1 (some .boolean) [] ({ frames := 0, cells := 0, slots := 0, locals := 0 } : Room) #[(.int y0)] h0 n0 (QI fun r h' => r = 1 ∧ h0 = h') := by
  refine OCon.mk (plainFor_of_name own_pn1) Z0 ?_
  intro p e s m below meth cd s₁ W0
  refine OF.cast (own_ef12 m y0) ?_
  have c_255___Int32_ : (255 : Int32).toInt = 255 := rfl
  refine o_iloadN W0 own_d12_0 (v := y0) rfl (pc' := 1) rfl ?_
  refine o_if_lt W0 own_d12_1 (by decide) (pq := 15) (by decide) (pc' := 4) rfl (fun hc1 => ?_) (fun hc1 => ?_)
  · exfalso; omega
  · refine o_iloadN W0 own_d12_4 (v := y0) rfl (pc' := 5) rfl ?_
    refine o_sipush W0 (v := (255 : Int32)) own_d12_5 rfl (pc' := 8) rfl ?_
    refine o_icmp_gt W0 own_d12_8 (by decide) (pq := 15) (by decide) (pc' := 11) rfl (fun hc8 => ?_) (fun hc8 => ?_)
    · exfalso; omega
    · refine o_iconst W0 (v := (1 : Int32)) own_d12_11 rfl (pc' := 12) rfl ?_
      refine o_goto W0 own_d12_12 (by decide) (pq := 16) (by decide) ?_
      refine o_retN W0 (t := .boolean) rfl (by simp) own_d12_16 (by decide) (by decide) ?_
      exact ⟨1, rfl, rfl, rfl⟩
theorem own_pn2 : plainName "java/lang/StringUTF16" = true := by first | (simp [plainName, overriddenIn]; done) | decide +kernel
theorem own_ef22 (m : MethodId) (z0 : Int32) : entryFrame m #[(.int z0)] 1 = mkF m 0 #[.val (.int z0)] [] := by first | (simp [entryFrame, mkF, argsToLocals, Value.category]; done) | rfl
theorem own_d22_0 : decode jdk_52_method_3_code 0 = .ok (.iload_n 0, 1) := by decide +kernel
theorem own_d22_1 : decode jdk_52_method_3_code 1 = .ok (.ifCond .ge 11, 3) := by decide +kernel
theorem own_d22_12 : decode jdk_52_method_3_code 12 = .ok (.iload_n 0, 1) := by decide +kernel
theorem own_d22_13 : decode jdk_52_method_3_code 13 = .ok (.ldc 20, 2) := by decide +kernel
theorem own_d22_15 : decode jdk_52_method_3_code 15 = .ok (.if_icmp .lt 40, 3) := by decide +kernel
theorem own_d22_55 : decode jdk_52_method_3_code 55 = .ok (.iload_n 0, 1) := by decide +kernel
theorem own_d22_56 : decode jdk_52_method_3_code 56 = .ok (.iconst 1, 1) := by decide +kernel
theorem own_d22_57 : decode jdk_52_method_3_code 57 = .ok (.ishl, 1) := by decide +kernel
theorem own_d22_58 : decode jdk_52_method_3_code 58 = .ok (.ireturn, 1) := by decide +kernel
set_option maxRecDepth 65536 in
set_option maxHeartbeats 4000000 in
theorem rm22 (l : Launch) (Z : State) (a0 : Array Value) (hw : ∀ d ∈ tables_1, d.before a0 Z = true) (y0 : Int32) (h0 : Heap) (n0 : Nat) (Z0 : n0 ≤ h0.size) (hy : 0 ≤ y0.toInt ∧ y0.toInt < 1000) :
    OCon l Z (⟨"java/lang/StringUTF16", "newBytesLength", "(I)I"⟩ : MethodName) jdk_52_method_3_code 1 (some .int) [] ({ frames := 0, cells := 0, slots := 0, locals := 0 } : Room) #[(.int y0)] h0 n0 (QI fun r h' => r = y0 <<< ((1 : Int32) &&& 31) ∧ h0 = h') := by
  refine OCon.mk (plainFor_of_name own_pn2) Z0 ?_
  intro p e s m below meth cd s₁ W0
  refine OF.cast (own_ef22 m y0) ?_
  have c_1073741823___Int32_ : (1073741823 : Int32).toInt = 1073741823 := rfl
  refine o_iloadN W0 own_d22_0 (v := y0) rfl (pc' := 1) rfl ?_
  refine o_if_ge W0 own_d22_1 (by decide) (pq := 12) (by decide) (pc' := 4) rfl (fun hc1 => ?_) (fun hc1 => ?_)
  · refine o_iloadN W0 own_d22_12 (v := y0) rfl (pc' := 13) rfl ?_
    refine o_ldc W0 (ow hw 96 rfl) own_d22_13 (pc' := 15) rfl ?_
    refine o_icmp_lt W0 own_d22_15 (by decide) (pq := 55) (by decide) (pc' := 18) rfl (fun hc15 => ?_) (fun hc15 => ?_)
    · refine o_iloadN W0 own_d22_55 (v := y0) rfl (pc' := 56) rfl ?_
      refine o_iconst W0 (v := (1 : Int32)) own_d22_56 rfl (pc' := 57) rfl ?_
      refine o_ishl W0 own_d22_57 (pc' := 58) rfl ?_
      refine o_retI W0 rfl own_d22_58 (by decide) (by decide) ?_
      exact ⟨_, rfl, rfl, rfl⟩
    · exfalso; omega
  · exfalso; omega
theorem own_ef23 (m : MethodId) (z0 : Addr) (z1 : Int32) (z2 : Int32) : entryFrame m #[(.ref z0), (.int z1), (.int z2)] 3 = mkF m 0 #[.val (.ref z0), .val (.int z1), .val (.int z2)] [] := by first | (simp [entryFrame, mkF, argsToLocals, Value.category]; done) | rfl
theorem own_d23_0 : decode jdk_52_method_4_code 0 = .ok (.getstatic 44, 3) := by decide +kernel
theorem own_d23_3 : decode jdk_52_method_4_code 3 = .ok (.ifCond .ne 25, 3) := by decide +kernel
theorem own_d23_28 : decode jdk_52_method_4_code 28 = .ok (.iload_n 1, 1) := by decide +kernel
theorem own_d23_29 : decode jdk_52_method_4_code 29 = .ok (.iconst 1, 1) := by decide +kernel
theorem own_d23_30 : decode jdk_52_method_4_code 30 = .ok (.ishl, 1) := by decide +kernel
theorem own_d23_31 : decode jdk_52_method_4_code 31 = .ok (.istore_n 1, 1) := by decide +kernel
theorem own_d23_32 : decode jdk_52_method_4_code 32 = .ok (.aload_n 0, 1) := by decide +kernel
theorem own_d23_33 : decode jdk_52_method_4_code 33 = .ok (.iload_n 1, 1) := by decide +kernel
theorem own_d23_34 : decode jdk_52_method_4_code 34 = .ok (.iinc 1 1, 3) := by decide +kernel
theorem own_d23_37 : decode jdk_52_method_4_code 37 = .ok (.iload_n 2, 1) := by decide +kernel
theorem own_d23_38 : decode jdk_52_method_4_code 38 = .ok (.getstatic 59, 3) := by decide +kernel
theorem own_d23_41 : decode jdk_52_method_4_code 41 = .ok (.ishr, 1) := by decide +kernel
theorem own_d23_42 : decode jdk_52_method_4_code 42 = .ok (.i2b, 1) := by decide +kernel
theorem own_d23_43 : decode jdk_52_method_4_code 43 = .ok (.bastore, 1) := by decide +kernel
theorem own_d23_44 : decode jdk_52_method_4_code 44 = .ok (.aload_n 0, 1) := by decide +kernel
theorem own_d23_45 : decode jdk_52_method_4_code 45 = .ok (.iload_n 1, 1) := by decide +kernel
theorem own_d23_46 : decode jdk_52_method_4_code 46 = .ok (.iload_n 2, 1) := by decide +kernel
theorem own_d23_47 : decode jdk_52_method_4_code 47 = .ok (.getstatic 63, 3) := by decide +kernel
theorem own_d23_50 : decode jdk_52_method_4_code 50 = .ok (.ishr, 1) := by decide +kernel
theorem own_d23_51 : decode jdk_52_method_4_code 51 = .ok (.i2b, 1) := by decide +kernel
theorem own_d23_52 : decode jdk_52_method_4_code 52 = .ok (.bastore, 1) := by decide +kernel
theorem own_d23_53 : decode jdk_52_method_4_code 53 = .ok (.return_, 1) := by decide +kernel
set_option maxRecDepth 65536 in
set_option maxHeartbeats 4000000 in
theorem rm23 (l : Launch) (Z : State) (a0 : Array Value) (hw : ∀ d ∈ tables_1, d.before a0 Z = true) (b0 : Addr) (y1 : Int32) (y2 : Int32) (h0 : Heap) (n0 : Nat) (Z0 : n0 ≤ h0.size) (cs : Int32) (fm : Value) (ST : OSt Z h0 cs fm) (xs : List Int32) (i : Nat) (A0 : OA Z h0 b0 .byte xs) (g0 : n0 ≤ b0) (hy : y1.toInt = i) (hi : i < 1000) (hl : 2 * i + 1 < xs.length) :
    OCon l Z (⟨"java/lang/StringUTF16", "putChar", "([BII)V"⟩ : MethodName) jdk_52_method_4_code 3 none [] ({ frames := 0, cells := 0, slots := 0, locals := 0 } : Room) #[(.ref b0), (.int y1), (.int y2)] h0 n0 (QV fun h' => Keep h0 h' [b0] ∧ OSt Z h' cs fm ∧ OA Z h' b0 .byte ((xs.set (2 * i) (own_lo y2)).set (2 * i + 1) (own_hi y2))) := by
  refine OCon.mk (plainFor_of_name own_pn2) Z0 ?_
  intro p e s m below meth cd s₁ W0
  refine OF.cast (own_ef23 m b0 y1 y2) ?_
  refine o_getS W0 (ow hw 100 rfl) ST.2.1 own_d23_0 (pc' := 3) rfl ?_
  intro T2 W2
  refine o_if_ne W2 own_d23_3 (by decide) (pq := 28) (by decide) (pc' := 6) rfl (fun hc3 => ?_) (fun hc3 => ?_)
  · refine o_iloadN W2 own_d23_28 (v := y1) rfl (pc' := 29) rfl ?_
    refine o_iconst W2 (v := (1 : Int32)) own_d23_29 rfl (pc' := 30) rfl ?_
    refine o_ishl W2 own_d23_30 (pc' := 31) rfl ?_
    refine o_istoreNG W2 (Lf := fun v3 => #[.val (.ref b0), .val (.int v3), .val (.int y2)]) own_d23_31 rfl (pc' := 32) rfl ?_
    intro v3 hv3
    have hd0 := own_dblx hy hi
    rw [← hv3] at hd0
    have c1 : (1 : Int32).toInt = 1 := rfl
    have hd1 : (v3 + 1).toInt = ((2 * i + 1 : Nat) : Int) := by rw [Jvm.Kit.i32_add (by omega) (by omega)]; omega
    refine o_aloadN W2 own_d23_32 (v := (.ref b0)) rfl rfl (pc' := 33) rfl ?_
    refine o_iloadN W2 own_d23_33 (v := v3) rfl (pc' := 34) rfl ?_
    refine o_iinc W2 (x := v3) (L' := #[.val (.ref b0), .val (.int (v3 + (1 : Int32))), .val (.int y2)]) own_d23_34 rfl rfl (pc' := 37) rfl ?_
    refine o_iloadN W2 own_d23_37 (v := y2) rfl (pc' := 38) rfl ?_
    refine o_getS W2 (ow hw 101 rfl) ST.2.2.1 own_d23_38 (pc' := 41) rfl ?_
    intro T4 W4
    refine o_ishr W4 own_d23_41 (pc' := 42) rfl ?_
    refine o_i2b W4 own_d23_42 (pc' := 43) rfl ?_
    refine o_bastore W4 A0 g0 own_d23_43 (pc' := 44) rfl (i := (2 * i)) hd0 (by omega) ?_
    intro T5 h5 W5 K5 A_b0_5
    have ST_5 := ST.keepA A0 K5
    have KK_K5 : Keep h0 h5 [b0] := (Keep.refl _ _).trans K5 (fun x hx => Or.inl hx)
    refine o_aloadN W5 own_d23_44 (v := (.ref b0)) rfl rfl (pc' := 45) rfl ?_
    refine o_iloadN W5 own_d23_45 (v := (v3 + (1 : Int32))) rfl (pc' := 46) rfl ?_
    refine o_iloadN W5 own_d23_46 (v := y2) rfl (pc' := 47) rfl ?_
    refine o_getS W5 (ow hw 102 rfl) ST_5.2.2.2.1 own_d23_47 (pc' := 50) rfl ?_
    intro T6 W6
    refine o_ishr W6 own_d23_50 (pc' := 51) rfl ?_
    refine o_i2b W6 own_d23_51 (pc' := 52) rfl ?_
    refine o_bastore W6 A_b0_5 g0 own_d23_52 (pc' := 53) rfl (i := (2 * i + 1)) hd1 (by rw [List.length_set]; omega) ?_
    intro T7 h7 W7 K7 A_b0_7
    have ST_7 := ST_5.keepA A_b0_5 K7
    have KK_K7 : Keep h0 h7 [b0] := (KK_K5).trans K7 (fun x hx => Or.inl hx)
    refine o_retV W7 rfl own_d23_53 (by decide) (by decide) ?_
    exact ⟨rfl, KK_K7, ST_7, A_b0_7⟩
  · exact absurd hc3 (by decide)
theorem own_ef24 (m : MethodId) (z0 : Addr) (z1 : Int32) : entryFrame m #[(.ref z0), (.int z1)] 2 = mkF m 0 #[.val (.ref z0), .val (.int z1)] [] := by first | (simp [entryFrame, mkF, argsToLocals, Value.category]; done) | rfl
theorem own_d24_0 : decode jdk_52_method_5_code 0 = .ok (.getstatic 44, 3) := by decide +kernel
theorem own_d24_3 : decode jdk_52_method_5_code 3 = .ok (.ifCond .ne 25, 3) := by decide +kernel
theorem own_d24_28 : decode jdk_52_method_5_code 28 = .ok (.iload_n 1, 1) := by decide +kernel
theorem own_d24_29 : decode jdk_52_method_5_code 29 = .ok (.iconst 1, 1) := by decide +kernel
theorem own_d24_30 : decode jdk_52_method_5_code 30 = .ok (.ishl, 1) := by decide +kernel
theorem own_d24_31 : decode jdk_52_method_5_code 31 = .ok (.istore_n 1, 1) := by decide +kernel
theorem own_d24_32 : decode jdk_52_method_5_code 32 = .ok (.aload_n 0, 1) := by decide +kernel
theorem own_d24_33 : decode jdk_52_method_5_code 33 = .ok (.iload_n 1, 1) := by decide +kernel
theorem own_d24_34 : decode jdk_52_method_5_code 34 = .ok (.iinc 1 1, 3) := by decide +kernel
theorem own_d24_37 : decode jdk_52_method_5_code 37 = .ok (.baload, 1) := by decide +kernel
theorem own_d24_38 : decode jdk_52_method_5_code 38 = .ok (.sipush 255, 3) := by decide +kernel
theorem own_d24_41 : decode jdk_52_method_5_code 41 = .ok (.iand, 1) := by decide +kernel
theorem own_d24_42 : decode jdk_52_method_5_code 42 = .ok (.getstatic 59, 3) := by decide +kernel
theorem own_d24_45 : decode jdk_52_method_5_code 45 = .ok (.ishl, 1) := by decide +kernel
theorem own_d24_46 : decode jdk_52_method_5_code 46 = .ok (.aload_n 0, 1) := by decide +kernel
theorem own_d24_47 : decode jdk_52_method_5_code 47 = .ok (.iload_n 1, 1) := by decide +kernel
theorem own_d24_48 : decode jdk_52_method_5_code 48 = .ok (.baload, 1) := by decide +kernel
theorem own_d24_49 : decode jdk_52_method_5_code 49 = .ok (.sipush 255, 3) := by decide +kernel
theorem own_d24_52 : decode jdk_52_method_5_code 52 = .ok (.iand, 1) := by decide +kernel
theorem own_d24_53 : decode jdk_52_method_5_code 53 = .ok (.getstatic 63, 3) := by decide +kernel
theorem own_d24_56 : decode jdk_52_method_5_code 56 = .ok (.ishl, 1) := by decide +kernel
theorem own_d24_57 : decode jdk_52_method_5_code 57 = .ok (.ior, 1) := by decide +kernel
theorem own_d24_58 : decode jdk_52_method_5_code 58 = .ok (.i2c, 1) := by decide +kernel
theorem own_d24_59 : decode jdk_52_method_5_code 59 = .ok (.ireturn, 1) := by decide +kernel
set_option maxRecDepth 65536 in
set_option maxHeartbeats 4000000 in
theorem rm24 (l : Launch) (Z : State) (a0 : Array Value) (hw : ∀ d ∈ tables_1, d.before a0 Z = true) (b0 : Addr) (y1 : Int32) (h0 : Heap) (n0 : Nat) (Z0 : n0 ≤ h0.size) (cs : Int32) (fm : Value) (ST : OSt Z h0 cs fm) (xs : List Int32) (i : Nat) (lo hi' : Int32) (A0 : OA Z h0 b0 .byte xs) (hy : y1.toInt = i) (hi : i < 1000) (h1 : xs[2 * i]? = some lo) (h2 : xs[2 * i + 1]? = some hi') :
    OCon l Z (⟨"java/lang/StringUTF16", "getChar", "([BI)C"⟩ : MethodName) jdk_52_method_5_code 2 (some .char) [] ({ frames := 0, cells := 0, slots := 0, locals := 0 } : Room) #[(.ref b0), (.int y1)] h0 n0 (QI fun r h' => r = own_gc lo hi' ∧ h0 = h') := by
  refine OCon.mk (plainFor_of_name own_pn2) Z0 ?_
  intro p e s m below meth cd s₁ W0
  refine OF.cast (own_ef24 m b0 y1) ?_
  refine o_getS W0 (ow hw 100 rfl) ST.2.1 own_d24_0 (pc' := 3) rfl ?_
  intro T8 W8
  refine o_if_ne W8 own_d24_3 (by decide) (pq := 28) (by decide) (pc' := 6) rfl (fun hc3 => ?_) (fun hc3 => ?_)
  · refine o_iloadN W8 own_d24_28 (v := y1) rfl (pc' := 29) rfl ?_
    refine o_iconst W8 (v := (1 : Int32)) own_d24_29 rfl (pc' := 30) rfl ?_
    refine o_ishl W8 own_d24_30 (pc' := 31) rfl ?_
    refine o_istoreNG W8 (Lf := fun v9 => #[.val (.ref b0), .val (.int v9)]) own_d24_31 rfl (pc' := 32) rfl ?_
    intro v9 hv9
    have hd0 := own_dblx hy hi
    rw [← hv9] at hd0
    have c1 : (1 : Int32).toInt = 1 := rfl
    have hd1 : (v9 + 1).toInt = ((2 * i + 1 : Nat) : Int) := by rw [Jvm.Kit.i32_add (by omega) (by omega)]; omega
    refine o_aloadN W8 own_d24_32 (v := (.ref b0)) rfl rfl (pc' := 33) rfl ?_
    refine o_iloadN W8 own_d24_33 (v := v9) rfl (pc' := 34) rfl ?_
    refine o_iinc W8 (x := v9) (L' := #[.val (.ref b0), .val (.int (v9 + (1 : Int32)))]) own_d24_34 rfl rfl (pc' := 37) rfl ?_
    refine o_baload W8 A0 own_d24_37 (pc' := 38) rfl (i := (2 * i)) (v := lo) hd0 h1 ?_
    refine o_sipush W8 (v := (255 : Int32)) own_d24_38 rfl (pc' := 41) rfl ?_
    refine o_iand W8 own_d24_41 (pc' := 42) rfl ?_
    refine o_getS W8 (ow hw 101 rfl) ST.2.2.1 own_d24_42 (pc' := 45) rfl ?_
    intro T10 W10
    refine o_ishl W10 own_d24_45 (pc' := 46) rfl ?_
    refine o_aloadN W10 own_d24_46 (v := (.ref b0)) rfl rfl (pc' := 47) rfl ?_
    refine o_iloadN W10 own_d24_47 (v := (v9 + (1 : Int32))) rfl (pc' := 48) rfl ?_
    refine o_baload W10 A0 own_d24_48 (pc' := 49) rfl (i := (2 * i + 1)) (v := hi') hd1 h2 ?_
    refine o_sipush W10 (v := (255 : Int32)) own_d24_49 rfl (pc' := 52) rfl ?_
    refine o_iand W10 own_d24_52 (pc' := 53) rfl ?_
    refine o_getS W10 (ow hw 102 rfl) ST.2.2.2.1 own_d24_53 (pc' := 56) rfl ?_
    intro T11 W11
    refine o_ishl W11 own_d24_56 (pc' := 57) rfl ?_
    refine o_ior W11 own_d24_57 (pc' := 58) rfl ?_
    refine o_i2c W11 own_d24_58 (pc' := 59) rfl ?_
    refine o_retN W11 (t := .char) rfl (by simp) own_d24_59 (by decide) (by decide) ?_
    exact ⟨_, rfl, rfl, rfl⟩
  · exact absurd hc3 (by decide)
theorem own_pn3 : plainName "jdk/internal/util/Preconditions" = true := by first | (simp [plainName, overriddenIn]; done) | decide +kernel
theorem own_ef30_null (m : MethodId) (z0 : Int32) (z1 : Int32) (z2 : Int32) : entryFrame m #[(.int z0), (.int z1), (.int z2), .null] 4 = mkF m 0 #[.val (.int z0), .val (.int z1), .val (.int z2), .val .null] [] := by first | (simp [entryFrame, mkF, argsToLocals, Value.category]; done) | rfl
theorem own_d30_0 : decode jdk_41_method_12_code 0 = .ok (.iload_n 0, 1) := by decide +kernel
theorem own_d30_1 : decode jdk_41_method_12_code 1 = .ok (.ifCond .lt 13, 3) := by decide +kernel
theorem own_d30_4 : decode jdk_41_method_12_code 4 = .ok (.iload_n 0, 1) := by decide +kernel
theorem own_d30_5 : decode jdk_41_method_12_code 5 = .ok (.iload_n 1, 1) := by decide +kernel
theorem own_d30_6 : decode jdk_41_method_12_code 6 = .ok (.if_icmp .gt 8, 3) := by decide +kernel
theorem own_d30_9 : decode jdk_41_method_12_code 9 = .ok (.iload_n 1, 1) := by decide +kernel
theorem own_d30_10 : decode jdk_41_method_12_code 10 = .ok (.iload_n 2, 1) := by decide +kernel
theorem own_d30_11 : decode jdk_41_method_12_code 11 = .ok (.if_icmp .le 11, 3) := by decide +kernel
theorem own_d30_22 : decode jdk_41_method_12_code 22 = .ok (.iload_n 0, 1) := by decide +kernel
theorem own_d30_23 : decode jdk_41_method_12_code 23 = .ok (.ireturn, 1) := by decide +kernel
set_option maxRecDepth 65536 in
set_option maxHeartbeats 4000000 in
theorem rm30_null (l : Launch) (Z : State) (a0 : Array Value) (hw : ∀ d ∈ tables_1, d.before a0 Z = true) (y0 : Int32) (y1 : Int32) (y2 : Int32) (h0 : Heap) (n0 : Nat) (Z0 : n0 ≤ h0.size) (hy : 0 ≤ y0.toInt ∧ y0.toInt ≤ y1.toInt ∧ y1.toInt ≤ y2.toInt) :
    OCon l Z (⟨"jdk/internal/util/Preconditions", "checkFromToIndex", "(IIILjava/util/function/BiFunction;)I"⟩ : MethodName) jdk_41_method_12_code 4 (some .int) [] ({ frames := 0, cells := 0, slots := 0, locals := 0 } : Room) #[(.int y0), (.int y1), (.int y2), .null] h0 n0 (QI fun r h' => r = y0 ∧ h0 = h') := by
  refine OCon.mk (plainFor_of_name own_pn3) Z0 ?_
  intro p e s m below meth cd s₁ W0
  refine OF.cast (own_ef30_null m y0 y1 y2) ?_
  refine o_iloadN W0 own_d30_0 (v := y0) rfl (pc' := 1) rfl ?_
  refine o_if_lt W0 own_d30_1 (by decide) (pq := 14) (by decide) (pc' := 4) rfl (fun hc1 => ?_) (fun hc1 => ?_)
  · exfalso; omega
  · refine o_iloadN W0 own_d30_4 (v := y0) rfl (pc' := 5) rfl ?_
    refine o_iloadN W0 own_d30_5 (v := y1) rfl (pc' := 6) rfl ?_
    refine o_icmp_gt W0 own_d30_6 (by decide) (pq := 14) (by decide) (pc' := 9) rfl (fun hc6 => ?_) (fun hc6 => ?_)
    · exfalso; omega
    · refine o_iloadN W0 own_d30_9 (v := y1) rfl (pc' := 10) rfl ?_
      refine o_iloadN W0 own_d30_10 (v := y2) rfl (pc' := 11) rfl ?_
      refine o_icmp_le W0 own_d30_11 (by decide) (pq := 22) (by decide) (pc' := 14) rfl (fun hc11 => ?_) (fun hc11 => ?_)
      · refine o_iloadN W0 own_d30_22 (v := y0) rfl (pc' := 23) rfl ?_
        refine o_retI W0 rfl own_d30_23 (by decide) (by decide) ?_
        exact ⟨_, rfl, rfl, rfl⟩
      · exfalso; omega
theorem own_ef30_b3 (m : MethodId) (z0 : Int32) (z1 : Int32) (z2 : Int32) (z3 : Addr) : entryFrame m #[(.int z0), (.int z1), (.int z2), (.ref z3)] 4 = mkF m 0 #[.val (.int z0), .val (.int z1), .val (.int z2), .val (.ref z3)] [] := by first | (simp [entryFrame, mkF, argsToLocals, Value.category]; done) | rfl
set_option maxRecDepth 65536 in
set_option maxHeartbeats 4000000 in
theorem rm30_b3 (l : Launch) (Z : State) (a0 : Array Value) (hw : ∀ d ∈ tables_1, d.before a0 Z = true) (y0 : Int32) (y1 : Int32) (y2 : Int32) (b3 : Addr) (h0 : Heap) (n0 : Nat) (Z0 : n0 ≤ h0.size) (hy : 0 ≤ y0.toInt ∧ y0.toInt ≤ y1.toInt ∧ y1.toInt ≤ y2.toInt) :
    OCon l Z (⟨"jdk/internal/util/Preconditions", "checkFromToIndex", "(IIILjava/util/function/BiFunction;)I"⟩ : MethodName) jdk_41_method_12_code 4 (some .int) [] ({ frames := 0, cells := 0, slots := 0, locals := 0 } : Room) #[(.int y0), (.int y1), (.int y2), (.ref b3)] h0 n0 (QI fun r h' => r = y0 ∧ h0 = h') := by
  refine OCon.mk (plainFor_of_name own_pn3) Z0 ?_
  intro p e s m below meth cd s₁ W0
  refine OF.cast (own_ef30_b3 m y0 y1 y2 b3) ?_
  refine o_iloadN W0 own_d30_0 (v := y0) rfl (pc' := 1) rfl ?_
  refine o_if_lt W0 own_d30_1 (by decide) (pq := 14) (by decide) (pc' := 4) rfl (fun hc1 => ?_) (fun hc1 => ?_)
  · exfalso; omega
  · refine o_iloadN W0 own_d30_4 (v := y0) rfl (pc' := 5) rfl ?_
    refine o_iloadN W0 own_d30_5 (v := y1) rfl (pc' := 6) rfl ?_
    refine o_icmp_gt W0 own_d30_6 (by decide) (pq := 14) (by decide) (pc' := 9) rfl (fun hc6 => ?_) (fun hc6 => ?_)
    · exfalso; omega
    · refine o_iloadN W0 own_d30_9 (v := y1) rfl (pc' := 10) rfl ?_
      refine o_iloadN W0 own_d30_10 (v := y2) rfl (pc' := 11) rfl ?_
      refine o_icmp_le W0 own_d30_11 (by decide) (pq := 22) (by decide) (pc' := 14) rfl (fun hc11 => ?_) (fun hc11 => ?_)
      · refine o_iloadN W0 own_d30_22 (v := y0) rfl (pc' := 23) rfl ?_
        refine o_retI W0 rfl own_d30_23 (by decide) (by decide) ?_
        exact ⟨_, rfl, rfl, rfl⟩
      · exfalso; omega
theorem own_pn4 : plainName "java/lang/String" = true := by first | (simp [plainName, overriddenIn]; done) | decide +kernel
theorem own_ef29 (m : MethodId) (z0 : Int32) (z1 : Int32) (z2 : Int32) : entryFrame m #[(.int z0), (.int z1), (.int z2)] 3 = mkF m 0 #[.val (.int z0), .val (.int z1), .val (.int z2)] [] := by first | (simp [entryFrame, mkF, argsToLocals, Value.category]; done) | rfl
theorem own_d29_0 : decode jdk_42_method_158_code 0 = .ok (.iload_n 0, 1) := by decide +kernel
theorem own_d29_1 : decode jdk_42_method_158_code 1 = .ok (.iload_n 1, 1) := by decide +kernel
theorem own_d29_2 : decode jdk_42_method_158_code 2 = .ok (.iload_n 2, 1) := by decide +kernel
theorem own_d29_3 : decode jdk_42_method_158_code 3 = .ok (.getstatic 1053, 3) := by decide +kernel
theorem own_d29_6 : decode jdk_42_method_158_code 6 = .ok (.invokestatic 1062, 3) := by decide +kernel
theorem own_pd0 : parseMethodDescriptor "(IIILjava/util/function/BiFunction;)I" = some ⟨[.int, .int, .int, (.object "java/util/function/BiFunction")], some .int⟩ := by decide +kernel
theorem own_d29_9 : decode jdk_42_method_158_code 9 = .ok (.pop, 1) := by decide +kernel
theorem own_d29_10 : decode jdk_42_method_158_code 10 = .ok (.return_, 1) := by decide +kernel
set_option maxRecDepth 65536 in
set_option maxHeartbeats 4000000 in
theorem rm29 (l : Launch) (Z : State) (a0 : Array Value) (hw : ∀ d ∈ tables_1, d.before a0 Z = true) (y0 : Int32) (y1 : Int32) (y2 : Int32) (h0 : Heap) (n0 : Nat) (Z0 : n0 ≤ h0.size) (cs : Int32) (fm : Value) (ST : OSt Z h0 cs fm) (hfm : fm.isRef = true) (hy : 0 ≤ y0.toInt ∧ y0.toInt ≤ y1.toInt ∧ y1.toInt ≤ y2.toInt) :
    OCon l Z (⟨"java/lang/String", "checkBoundsBeginEnd", "(III)V"⟩ : MethodName) jdk_42_method_158_code 3 none [] ({ frames := 1, cells := 0, slots := 0, locals := 15 } : Room) #[(.int y0), (.int y1), (.int y2)] h0 n0 (QV fun h' => h0 = h') := by
  refine OCon.mk (plainFor_of_name own_pn4) Z0 ?_
  intro p e s m below meth cd s₁ W0
  refine OF.cast (own_ef29 m y0 y1 y2) ?_
  refine o_iloadN W0 own_d29_0 (v := y0) rfl (pc' := 1) rfl ?_
  refine o_iloadN W0 own_d29_1 (v := y1) rfl (pc' := 2) rfl ?_
  refine o_iloadN W0 own_d29_2 (v := y2) rfl (pc' := 3) rfl ?_
  refine o_getS W0 (ow hw 124 rfl) ST.2.2.2.2 own_d29_3 (pc' := 6) rfl ?_
  intro T12 W12
  rcases ref_cases hfm with rfl | ⟨qf, rfl⟩
  · refine o_callSI W12 (rm30_null l Z a0 hw y0 y1 y2 h0 n0 W12.le hy) (ow hw 126 rfl) (ow hw 127 rfl) (ow hw 125 rfl) (ow hw 128 rfl) (by decide) (argsL := [(.int y0), (.int y1), (.int y2), .null]) (S := []) (lenOf own_pd0 rfl) rfl rfl rfl (wt := 0) rfl (by decide) (by decide) (by decide) (by decide) (kk' := 0) rfl (nn' := 0) rfl own_d29_6 (pc' := 9) rfl ?_
    intro r13 T13 h13 W13 q13 z13
    obtain ⟨q13, rfl⟩ := q13
    refine o_pop W13 own_d29_9 rfl (pc' := 10) rfl ?_
    refine o_retV W13 rfl own_d29_10 (by decide) (by decide) ?_
    exact ⟨rfl, rfl⟩
  · refine o_callSI W12 (rm30_b3 l Z a0 hw y0 y1 y2 qf h0 n0 W12.le hy) (ow hw 126 rfl) (ow hw 127 rfl) (ow hw 125 rfl) (ow hw 128 rfl) (by decide) (argsL := [(.int y0), (.int y1), (.int y2), (.ref qf)]) (S := []) (lenOf own_pd0 rfl) rfl rfl rfl (wt := 0) rfl (by decide) (by decide) (by decide) (by decide) (kk' := 0) rfl (nn' := 0) rfl own_d29_6 (pc' := 9) rfl ?_
    intro r14 T14 h14 W14 q14 z14
    obtain ⟨q14, rfl⟩ := q14
    refine o_pop W14 own_d29_9 rfl (pc' := 10) rfl ?_
    refine o_retV W14 rfl own_d29_10 (by decide) (by decide) ?_
    exact ⟨rfl, rfl⟩
theorem own_ef8_L (m : MethodId) (z0 : Addr) : entryFrame m #[(.ref z0)] 1 = mkF m 0 #[.val (.ref z0)] [] := by first | (simp [entryFrame, mkF, argsToLocals, Value.category]; done) | rfl
theorem own_d8_0 : decode jdk_42_method_154_code 0 = .ok (.getstatic 38, 3) := by decide +kernel
theorem own_d8_3 : decode jdk_42_method_154_code 3 = .ok (.ifCond .eq 14, 3) := by decide +kernel
theorem own_d8_6 : decode jdk_42_method_154_code 6 = .ok (.aload_n 0, 1) := by decide +kernel
theorem own_d8_7 : decode jdk_42_method_154_code 7 = .ok (.getfield 15, 3) := by decide +kernel
theorem own_d8_10 : decode jdk_42_method_154_code 10 = .ok (.ifCond .ne 7, 3) := by decide +kernel
theorem own_d8_13 : decode jdk_42_method_154_code 13 = .ok (.iconst 1, 1) := by decide +kernel
theorem own_d8_14 : decode jdk_42_method_154_code 14 = .ok (.goto 4, 3) := by decide +kernel
theorem own_d8_18 : decode jdk_42_method_154_code 18 = .ok (.ireturn, 1) := by decide +kernel
set_option maxRecDepth 65536 in
set_option maxHeartbeats 4000000 in
theorem rm8_L (l : Launch) (Z : State) (a0 : Array Value) (hw : ∀ d ∈ tables_1, d.before a0 Z = true) (b0 : Addr) (h0 : Heap) (n0 : Nat) (Z0 : n0 ≤ h0.size) (cs : Int32) (fm : Value) (ST : OSt Z h0 cs fm) (hcs : ¬ cs.toInt = 0) (Fc : Fld Z h0 b0 "java/lang/String" "coder" "B" (.int (0 : Int32))) :
    OCon l Z (⟨"java/lang/String", "isLatin1", "()Z"⟩ : MethodName) jdk_42_method_154_code 1 (some .boolean) [] ({ frames := 0, cells := 0, slots := 0, locals := 0 } : Room) #[(.ref b0)] h0 n0 (QI fun r h' => r = 1 ∧ h0 = h') := by
  refine OCon.mk (plainFor_of_name own_pn4) Z0 ?_
  intro p e s m below meth cd s₁ W0
  refine OF.cast (own_ef8_L m b0) ?_
  have c_0___Int32_ : (0 : Int32).toInt = 0 := rfl
  refine o_getS W0 (ow hw 46 rfl) ST.1 own_d8_0 (pc' := 3) rfl ?_
  intro T15 W15
  refine o_if_eq W15 own_d8_3 (by decide) (pq := 17) (by decide) (pc' := 6) rfl (fun hc3 => ?_) (fun hc3 => ?_)
  · exact absurd hc3 hcs
  · refine o_aloadN W15 own_d8_6 (v := (.ref b0)) rfl rfl (pc' := 7) rfl ?_
    refine o_getF W15 (ow hw 26 rfl) Fc own_d8_7 (pc' := 10) rfl ?_
    intro T16 W16
    refine o_if_ne W16 own_d8_10 (by decide) (pq := 17) (by decide) (pc' := 13) rfl (fun hc10 => ?_) (fun hc10 => ?_)
    · exact absurd hc10 (by decide)
    · refine o_iconst W16 (v := (1 : Int32)) own_d8_13 rfl (pc' := 14) rfl ?_
      refine o_goto W16 own_d8_14 (by decide) (pq := 18) (by decide) ?_
      refine o_retN W16 (t := .boolean) rfl (by simp) own_d8_18 (by decide) (by decide) ?_
      exact ⟨(1 : Int32), rfl, rfl, rfl⟩
theorem own_ef10_L (m : MethodId) (z0 : Addr) : entryFrame m #[(.ref z0)] 1 = mkF m 0 #[.val (.ref z0)] [] := by first | (simp [entryFrame, mkF, argsToLocals, Value.category]; done) | rfl
theorem own_d10_0 : decode jdk_42_method_152_code 0 = .ok (.getstatic 38, 3) := by decide +kernel
theorem own_d10_3 : decode jdk_42_method_152_code 3 = .ok (.ifCond .eq 10, 3) := by decide +kernel
theorem own_d10_6 : decode jdk_42_method_152_code 6 = .ok (.aload_n 0, 1) := by decide +kernel
theorem own_d10_7 : decode jdk_42_method_152_code 7 = .ok (.getfield 15, 3) := by decide +kernel
theorem own_d10_10 : decode jdk_42_method_152_code 10 = .ok (.goto 4, 3) := by decide +kernel
theorem own_d10_14 : decode jdk_42_method_152_code 14 = .ok (.ireturn, 1) := by decide +kernel
set_option maxRecDepth 65536 in
set_option maxHeartbeats 4000000 in
theorem rm10_L (l : Launch) (Z : State) (a0 : Array Value) (hw : ∀ d ∈ tables_1, d.before a0 Z = true) (b0 : Addr) (h0 : Heap) (n0 : Nat) (Z0 : n0 ≤ h0.size) (cs : Int32) (fm : Value) (ST : OSt Z h0 cs fm) (hcs : ¬ cs.toInt = 0) (Fc : Fld Z h0 b0 "java/lang/String" "coder" "B" (.int (0 : Int32))) :
    OCon l Z (⟨"java/lang/String", "coder", "()B"⟩ : MethodName) jdk_42_method_152_code 1 (some .byte) [] ({ frames := 0, cells := 0, slots := 0, locals := 0 } : Room) #[(.ref b0)] h0 n0 (QI fun r h' => r = 0 ∧ h0 = h') := by
  refine OCon.mk (plainFor_of_name own_pn4) Z0 ?_
  intro p e s m below meth cd s₁ W0
  refine OF.cast (own_ef10_L m b0) ?_
  refine o_getS W0 (ow hw 46 rfl) ST.1 own_d10_0 (pc' := 3) rfl ?_
  intro T17 W17
  refine o_if_eq W17 own_d10_3 (by decide) (pq := 13) (by decide) (pc' := 6) rfl (fun hc3 => ?_) (fun hc3 => ?_)
  · exact absurd hc3 hcs
  · refine o_aloadN W17 own_d10_6 (v := (.ref b0)) rfl rfl (pc' := 7) rfl ?_
    refine o_getF W17 (ow hw 26 rfl) Fc own_d10_7 (pc' := 10) rfl ?_
    intro T18 W18
    refine o_goto W18 own_d10_10 (by decide) (pq := 14) (by decide) ?_
    refine o_retN W18 (t := .byte) rfl (by simp) own_d10_14 (by decide) (by decide) ?_
    exact ⟨0, rfl, rfl, rfl⟩
theorem own_ef9_0L (m : MethodId) (z0 : Addr) : entryFrame m #[(.ref z0)] 1 = mkF m 0 #[.val (.ref z0)] [] := by first | (simp [entryFrame, mkF, argsToLocals, Value.category]; done) | rfl
theorem own_d9_0 : decode jdk_42_method_54_code 0 = .ok (.aload_n 0, 1) := by decide +kernel
theorem own_d9_1 : decode jdk_42_method_54_code 1 = .ok (.getfield 9, 3) := by decide +kernel
theorem own_d9_4 : decode jdk_42_method_54_code 4 = .ok (.arraylength, 1) := by decide +kernel
theorem own_d9_5 : decode jdk_42_method_54_code 5 = .ok (.aload_n 0, 1) := by decide +kernel
theorem own_d9_6 : decode jdk_42_method_54_code 6 = .ok (.invokevirtual 335, 3) := by decide +kernel
theorem own_pd1 : parseMethodDescriptor "()B" = some ⟨[], some .byte⟩ := by decide +kernel
theorem own_d9_9 : decode jdk_42_method_54_code 9 = .ok (.ishr, 1) := by decide +kernel
theorem own_d9_10 : decode jdk_42_method_54_code 10 = .ok (.ireturn, 1) := by decide +kernel
set_option maxRecDepth 65536 in
set_option maxHeartbeats 4000000 in
theorem rm9_0L (l : Launch) (Z : State) (a0 : Array Value) (hw : ∀ d ∈ tables_1, d.before a0 Z = true) (b0 : Addr) (h0 : Heap) (n0 : Nat) (Z0 : n0 ≤ h0.size) (cs : Int32) (fm : Value) (ST : OSt Z h0 cs fm) (hcs : ¬ cs.toInt = 0)  (b1 : Addr) (E0 : Exa Z h0 b0 "java/lang/String") (Fv : Fld Z h0 b0 "java/lang/String" "value" "[B" (.ref b1)) (Fc : Fld Z h0 b0 "java/lang/String" "coder" "B" (.int (0 : Int32))) (A1 : OA Z h0 b1 .byte []) :
    OCon l Z (⟨"java/lang/String", "length", "()I"⟩ : MethodName) jdk_42_method_54_code 1 (some .int) [] ({ frames := 1, cells := 0, slots := 0, locals := 13 } : Room) #[(.ref b0)] h0 n0 (QI fun r h' => r = (0 : Int32) ∧ h0 = h') := by
  refine OCon.mk (plainFor_of_name own_pn4) Z0 ?_
  intro p e s m below meth cd s₁ W0
  refine OF.cast (own_ef9_0L m b0) ?_
  refine o_aloadN W0 own_d9_0 (v := (.ref b0)) rfl rfl (pc' := 1) rfl ?_
  refine o_getF W0 (ow hw 25 rfl) Fv own_d9_1 (pc' := 4) rfl ?_
  intro T19 W19
  refine o_arraylength W19 A1 own_d9_4 (pc' := 5) rfl ?_
  intro v20 hv20
  obtain rfl : v20 = (0 : Int32) := o_eq (y := (0 : Int32)) hv20
  refine o_aloadN W19 own_d9_5 (v := (.ref b0)) rfl rfl (pc' := 6) rfl ?_
  refine o_callV W19 E0 (rm10_L l Z a0 hw b0 h0 n0 W19.le cs fm ST hcs Fc) (ow hw 52 rfl) (ow hw 53 rfl) (notFace_of_selects (args := #[]) (mvT W19.hZ (ow hw 55 rfl))) (ow hw 55 rfl) (ow hw 54 rfl) (ow hw 8 rfl) (ow hw 56 rfl) (by decide) (argsL := []) (S := [(.int (0 : Int32))]) (lenOf own_pd1 rfl) rfl rfl rfl (wt := 1) rfl (by decide) (by decide) (by decide) (by decide) (kk' := 0) rfl (nn' := 0) rfl own_d9_6 (pc' := 9) rfl ?_
  intro vv T21 h21 W21 q21 z21
  obtain ⟨r21, rfl, q21⟩ := q21
  show OF _ _ _ _ _ _ _ T21 (mkF m 9 #[.val (.ref b0)] [(.int r21), (.int (0 : Int32))])
  obtain ⟨q21, rfl⟩ := q21
  obtain rfl : r21 = (0 : Int32) := q21
  refine o_ishr W21 own_d9_9 (pc' := 10) rfl ?_
  show OF _ _ _ _ _ _ _ T21 (mkF m 10 #[.val (.ref b0)] [(.int (0 : Int32))])
  refine o_retI W21 rfl own_d9_10 (by decide) (by decide) ?_
  exact ⟨_, rfl, rfl, rfl⟩
theorem own_ef19_0 (m : MethodId) (z0 : Addr) (z1 : Int32) (z2 : Int32) (z3 : Int32) : entryFrame m #[(.ref z0), (.int z1), (.int z2), (.int z3)] 6 = mkF m 0 #[.val (.ref z0), .val (.int z1), .val (.int z2), .val (.int z3), .unset, .unset] [] := by first | (simp [entryFrame, mkF, argsToLocals, Value.category]; done) | rfl
theorem own_d19_0 : decode jdk_43_method_23_code 0 = .ok (.iload_n 1, 1) := by decide +kernel
theorem own_d19_1 : decode jdk_43_method_23_code 1 = .ok (.i2b, 1) := by decide +kernel
theorem own_d19_2 : decode jdk_43_method_23_code 2 = .ok (.istore 4, 2) := by decide +kernel
theorem own_d19_4 : decode jdk_43_method_23_code 4 = .ok (.iload_n 2, 1) := by decide +kernel
theorem own_d19_5 : decode jdk_43_method_23_code 5 = .ok (.istore 5, 2) := by decide +kernel
theorem own_d19_7 : decode jdk_43_method_23_code 7 = .ok (.iload 5, 2) := by decide +kernel
theorem own_d19_9 : decode jdk_43_method_23_code 9 = .ok (.iload_n 3, 1) := by decide +kernel
theorem own_d19_10 : decode jdk_43_method_23_code 10 = .ok (.if_icmp .ge 21, 3) := by decide +kernel
theorem own_d19_31 : decode jdk_43_method_23_code 31 = .ok (.iconst (-1), 1) := by decide +kernel
theorem own_d19_32 : decode jdk_43_method_23_code 32 = .ok (.ireturn, 1) := by decide +kernel
set_option maxRecDepth 65536 in
set_option maxHeartbeats 4000000 in
theorem rm19_0 (l : Launch) (Z : State) (a0 : Array Value) (hw : ∀ d ∈ tables_1, d.before a0 Z = true) (b1 : Addr) (y1 : Int32) (h0 : Heap) (n0 : Nat) (Z0 : n0 ≤ h0.size) (hy : 0 ≤ y1.toInt ∧ y1.toInt < 128)  (A1 : OA Z h0 b1 .byte []) :
    OCon l Z (⟨"java/lang/StringLatin1", "indexOfChar", "([BIII)I"⟩ : MethodName) jdk_43_method_23_code 6 (some .int) [] ({ frames := 0, cells := 0, slots := 0, locals := 0 } : Room) #[(.ref b1), (.int y1), (.int (0 : Int32)), (.int (0 : Int32))] h0 n0 (QI fun r h' => ((0 ≤ r.toInt ∧ ((0 : Int) = 1)) ∨ (r.toInt < 0 ∧ ¬ ((0 : Int) = 1))) ∧ h0 = h') := by
  refine OCon.mk (plainFor_of_name own_pn1) Z0 ?_
  intro p e s m below meth cd s₁ W0
  refine OF.cast (own_ef19_0 m b1 y1 (0 : Int32) (0 : Int32)) ?_
  have cm1 : (-1 : Int32).toInt = -1 := rfl
  have ci0 : (0 : Int32).toInt = 0 := rfl
  have ci1 : (1 : Int32).toInt = 1 := rfl
  have ci2 : (2 : Int32).toInt = 2 := rfl
  have ci3 : (3 : Int32).toInt = 3 := rfl
  have ci4 : (4 : Int32).toInt = 4 := rfl
  refine o_iloadN W0 own_d19_0 (v := y1) rfl (pc' := 1) rfl ?_
  refine o_i2b W0 own_d19_1 (pc' := 2) rfl ?_
  refine o_istoreG W0 (Lf := fun v22 => #[.val (.ref b1), .val (.int y1), .val (.int (0 : Int32)), .val (.int (0 : Int32)), .val (.int v22), .unset]) own_d19_2 rfl (pc' := 4) rfl ?_
  intro v22 hv22
  refine o_iloadN W0 own_d19_4 (v := (0 : Int32)) rfl (pc' := 5) rfl ?_
  refine o_istore W0 (L' := #[.val (.ref b1), .val (.int y1), .val (.int (0 : Int32)), .val (.int (0 : Int32)), .val (.int v22), .val (.int (0 : Int32))]) own_d19_5 rfl (pc' := 7) rfl ?_
  refine o_iload W0 own_d19_7 (v := (0 : Int32)) rfl (pc' := 9) rfl ?_
  refine o_iloadN W0 own_d19_9 (v := (0 : Int32)) rfl (pc' := 10) rfl ?_
  refine o_icmp_ge W0 own_d19_10 (by decide) (pq := 31) (by decide) (pc' := 13) rfl (fun hc10 => ?_) (fun hc10 => ?_)
  · refine o_iconst W0 (v := (-1 : Int32)) own_d19_31 rfl (pc' := 32) rfl ?_
    refine o_retI W0 rfl own_d19_32 (by decide) (by decide) ?_
    exact ⟨_, rfl, by omega, rfl⟩
  · exact absurd hc10 (by decide)
theorem own_ef11_0 (m : MethodId) (z0 : Addr) (z1 : Int32) (z2 : Int32) (z3 : Int32) : entryFrame m #[(.ref z0), (.int z1), (.int z2), (.int z3)] 4 = mkF m 0 #[.val (.ref z0), .val (.int z1), .val (.int z2), .val (.int z3)] [] := by first | (simp [entryFrame, mkF, argsToLocals, Value.category]; done) | rfl
theorem own_d11_0 : decode jdk_43_method_22_code 0 = .ok (.iload_n 1, 1) := by decide +kernel
theorem own_d11_1 : decode jdk_43_method_22_code 1 = .ok (.invokestatic 88, 3) := by decide +kernel
theorem own_pd2 : parseMethodDescriptor "(I)Z" = some ⟨[.int], some .boolean⟩ := by decide +kernel
theorem own_d11_4 : decode jdk_43_method_22_code 4 = .ok (.ifCond .ne 5, 3) := by decide +kernel
theorem own_d11_9 : decode jdk_43_method_22_code 9 = .ok (.iload_n 2, 1) := by decide +kernel
theorem own_d11_10 : decode jdk_43_method_22_code 10 = .ok (.iconst 0, 1) := by decide +kernel
theorem own_d11_11 : decode jdk_43_method_22_code 11 = .ok (.invokestatic 92, 3) := by decide +kernel
theorem own_pd3 : parseMethodDescriptor "(II)I" = some ⟨[.int, .int], some .int⟩ := by decide +kernel
theorem own_d11_14 : decode jdk_43_method_22_code 14 = .ok (.istore_n 2, 1) := by decide +kernel
theorem own_d11_15 : decode jdk_43_method_22_code 15 = .ok (.iload_n 3, 1) := by decide +kernel
theorem own_d11_16 : decode jdk_43_method_22_code 16 = .ok (.aload_n 0, 1) := by decide +kernel
theorem own_d11_17 : decode jdk_43_method_22_code 17 = .ok (.arraylength, 1) := by decide +kernel
theorem own_d11_18 : decode jdk_43_method_22_code 18 = .ok (.invokestatic 38, 3) := by decide +kernel
theorem own_d11_21 : decode jdk_43_method_22_code 21 = .ok (.istore_n 3, 1) := by decide +kernel
theorem own_d11_22 : decode jdk_43_method_22_code 22 = .ok (.iload_n 2, 1) := by decide +kernel
theorem own_d11_23 : decode jdk_43_method_22_code 23 = .ok (.iload_n 3, 1) := by decide +kernel
theorem own_d11_24 : decode jdk_43_method_22_code 24 = .ok (.if_icmp .lt 5, 3) := by decide +kernel
theorem own_d11_27 : decode jdk_43_method_22_code 27 = .ok (.iconst (-1), 1) := by decide +kernel
theorem own_d11_28 : decode jdk_43_method_22_code 28 = .ok (.ireturn, 1) := by decide +kernel
set_option maxRecDepth 65536 in
set_option maxHeartbeats 4000000 in
theorem rm11_0 (l : Launch) (Z : State) (a0 : Array Value) (hw : ∀ d ∈ tables_1, d.before a0 Z = true) (b1 : Addr) (y1 : Int32) (h0 : Heap) (n0 : Nat) (Z0 : n0 ≤ h0.size) (hy : 0 ≤ y1.toInt ∧ y1.toInt < 128)  (A1 : OA Z h0 b1 .byte []) :
    OCon l Z (⟨"java/lang/StringLatin1", "indexOf", "([BIII)I"⟩ : MethodName) jdk_43_method_22_code 4 (some .int) [] ({ frames := 1, cells := 0, slots := 0, locals := 17 } : Room) #[(.ref b1), (.int y1), (.int (0 : Int32)), (.int (0 : Int32))] h0 n0 (QI fun r h' => ((0 ≤ r.toInt ∧ ((0 : Int) = 1)) ∨ (r.toInt < 0 ∧ ¬ ((0 : Int) = 1))) ∧ h0 = h') := by
  refine OCon.mk (plainFor_of_name own_pn1) Z0 ?_
  intro p e s m below meth cd s₁ W0
  refine OF.cast (own_ef11_0 m b1 y1 (0 : Int32) (0 : Int32)) ?_
  have cm1 : (-1 : Int32).toInt = -1 := rfl
  have ci0 : (0 : Int32).toInt = 0 := rfl
  have ci1 : (1 : Int32).toInt = 1 := rfl
  have ci2 : (2 : Int32).toInt = 2 := rfl
  have ci3 : (3 : Int32).toInt = 3 := rfl
  have ci4 : (4 : Int32).toInt = 4 := rfl
  refine o_iloadN W0 own_d11_0 (v := y1) rfl (pc' := 1) rfl ?_
  refine o_callSI W0 (rm12 l Z a0 hw y1 h0 n0 W0.le (by omega)) (ow hw 61 rfl) (ow hw 62 rfl) (ow hw 59 rfl) (ow hw 63 rfl) (by decide) (argsL := [(.int y1)]) (S := []) (lenOf own_pd2 rfl) rfl rfl rfl (wt := 0) rfl (by decide) (by decide) (by decide) (by decide) (kk' := 0) rfl (nn' := 0) rfl own_d11_1 (pc' := 4) rfl ?_
  intro r23 T23 h23 W23 q23 z23
  obtain ⟨q23, rfl⟩ := q23
  obtain rfl : r23 = 1 := q23
  refine o_if_ne W23 own_d11_4 (by decide) (pq := 9) (by decide) (pc' := 7) rfl (fun hc4 => ?_) (fun hc4 => ?_)
  · refine o_iloadN W23 own_d11_9 (v := (0 : Int32)) rfl (pc' := 10) rfl ?_
    refine o_iconst W23 (v := (0 : Int32)) own_d11_10 rfl (pc' := 11) rfl ?_
    refine o_callSI W23 (rm13 l Z a0 hw (0 : Int32) (0 : Int32) h0 n0 W23.le) (ow hw 64 rfl) (ow hw 65 rfl) (ow hw 66 rfl) (ow hw 67 rfl) (by decide) (argsL := [(.int (0 : Int32)), (.int (0 : Int32))]) (S := []) (lenOf own_pd3 rfl) rfl rfl rfl (wt := 0) rfl (by decide) (by decide) (by decide) (by decide) (kk' := 0) rfl (nn' := 0) rfl own_d11_11 (pc' := 14) rfl ?_
    intro r24 T24 h24 W24 q24 z24
    obtain ⟨q24, rfl⟩ := q24
    obtain rfl : r24 = (0 : Int32) := by
      rcases q24 with ⟨_, q⟩ | ⟨_, q⟩ <;> exact q
    refine o_istoreN W24 (L' := #[.val (.ref b1), .val (.int y1), .val (.int (0 : Int32)), .val (.int (0 : Int32))]) own_d11_14 rfl (pc' := 15) rfl ?_
    refine o_iloadN W24 own_d11_15 (v := (0 : Int32)) rfl (pc' := 16) rfl ?_
    refine o_aloadN W24 own_d11_16 (v := (.ref b1)) rfl rfl (pc' := 17) rfl ?_
    refine o_arraylength W24 A1 own_d11_17 (pc' := 18) rfl ?_
    intro v25 hv25
    obtain rfl : v25 = (0 : Int32) := o_eq (y := (0 : Int32)) hv25
    refine o_callSI W24 (rm14 l Z a0 hw (0 : Int32) (0 : Int32) h0 n0 W24.le) (ow hw 68 rfl) (ow hw 69 rfl) (ow hw 66 rfl) (ow hw 70 rfl) (by decide) (argsL := [(.int (0 : Int32)), (.int (0 : Int32))]) (S := []) (lenOf own_pd3 rfl) rfl rfl rfl (wt := 0) rfl (by decide) (by decide) (by decide) (by decide) (kk' := 0) rfl (nn' := 0) rfl own_d11_18 (pc' := 21) rfl ?_
    intro r26 T26 h26 W26 q26 z26
    obtain ⟨q26, rfl⟩ := q26
    obtain rfl : r26 = (0 : Int32) := by
      rcases q26 with ⟨_, q⟩ | ⟨_, q⟩ <;> exact q
    refine o_istoreN W26 (L' := #[.val (.ref b1), .val (.int y1), .val (.int (0 : Int32)), .val (.int (0 : Int32))]) own_d11_21 rfl (pc' := 22) rfl ?_
    refine o_iloadN W26 own_d11_22 (v := (0 : Int32)) rfl (pc' := 23) rfl ?_
    refine o_iloadN W26 own_d11_23 (v := (0 : Int32)) rfl (pc' := 24) rfl ?_
    refine o_icmp_lt W26 own_d11_24 (by decide) (pq := 29) (by decide) (pc' := 27) rfl (fun hc24 => ?_) (fun hc24 => ?_)
    · exact absurd hc24 (by decide)
    · refine o_iconst W26 (v := (-1 : Int32)) own_d11_27 rfl (pc' := 28) rfl ?_
      refine o_retI W26 rfl own_d11_28 (by decide) (by decide) ?_
      exact ⟨_, rfl, by omega, rfl⟩
  · exact absurd hc4 (by decide)
theorem own_ef7_0L (m : MethodId) (z0 : Addr) (z1 : Int32) (z2 : Int32) : entryFrame m #[(.ref z0), (.int z1), (.int z2)] 3 = mkF m 0 #[.val (.ref z0), .val (.int z1), .val (.int z2)] [] := by first | (simp [entryFrame, mkF, argsToLocals, Value.category]; done) | rfl
theorem own_d7_0 : decode jdk_42_method_80_code 0 = .ok (.aload_n 0, 1) := by decide +kernel
theorem own_d7_1 : decode jdk_42_method_80_code 1 = .ok (.invokevirtual 492, 3) := by decide +kernel
theorem own_pd4 : parseMethodDescriptor "()Z" = some ⟨[], some .boolean⟩ := by decide +kernel
theorem own_d7_4 : decode jdk_42_method_80_code 4 = .ok (.ifCond .eq 19, 3) := by decide +kernel
theorem own_d7_7 : decode jdk_42_method_80_code 7 = .ok (.aload_n 0, 1) := by decide +kernel
theorem own_d7_8 : decode jdk_42_method_80_code 8 = .ok (.getfield 9, 3) := by decide +kernel
theorem own_d7_11 : decode jdk_42_method_80_code 11 = .ok (.iload_n 1, 1) := by decide +kernel
theorem own_d7_12 : decode jdk_42_method_80_code 12 = .ok (.iload_n 2, 1) := by decide +kernel
theorem own_d7_13 : decode jdk_42_method_80_code 13 = .ok (.aload_n 0, 1) := by decide +kernel
theorem own_d7_14 : decode jdk_42_method_80_code 14 = .ok (.invokevirtual 505, 3) := by decide +kernel
theorem own_pd5 : parseMethodDescriptor "()I" = some ⟨[], some .int⟩ := by decide +kernel
theorem own_d7_17 : decode jdk_42_method_80_code 17 = .ok (.invokestatic 637, 3) := by decide +kernel
theorem own_pd6 : parseMethodDescriptor "([BIII)I" = some ⟨[(.array .byte), .int, .int, .int], some .int⟩ := by decide +kernel
theorem own_d7_20 : decode jdk_42_method_80_code 20 = .ok (.goto 16, 3) := by decide +kernel
theorem own_d7_36 : decode jdk_42_method_80_code 36 = .ok (.ireturn, 1) := by decide +kernel
set_option maxRecDepth 65536 in
set_option maxHeartbeats 4000000 in
theorem rm7_0L (l : Launch) (Z : State) (a0 : Array Value) (hw : ∀ d ∈ tables_1, d.before a0 Z = true) (b0 : Addr) (y1 : Int32) (h0 : Heap) (n0 : Nat) (Z0 : n0 ≤ h0.size) (hy : 0 ≤ y1.toInt ∧ y1.toInt < 128) (cs : Int32) (fm : Value) (ST : OSt Z h0 cs fm) (hcs : ¬ cs.toInt = 0) (hfm : fm.isRef = true)  (b1 : Addr) (E0 : Exa Z h0 b0 "java/lang/String") (Fv : Fld Z h0 b0 "java/lang/String" "value" "[B" (.ref b1)) (Fc : Fld Z h0 b0 "java/lang/String" "coder" "B" (.int (0 : Int32))) (A1 : OA Z h0 b1 .byte []) :
    OCon l Z (⟨"java/lang/String", "indexOf", "(II)I"⟩ : MethodName) jdk_42_method_80_code 3 (some .int) [] ({ frames := 5, cells := 0, slots := 0, locals := 73 } : Room) #[(.ref b0), (.int y1), (.int (0 : Int32))] h0 n0 (QI fun r h' => ((0 ≤ r.toInt ∧ ((0 : Int) = 1)) ∨ (r.toInt < 0 ∧ ¬ ((0 : Int) = 1))) ∧ h0 = h') := by
  refine OCon.mk (plainFor_of_name own_pn4) Z0 ?_
  intro p e s m below meth cd s₁ W0
  refine OF.cast (own_ef7_0L m b0 y1 (0 : Int32)) ?_
  have c_1___Int32_ : (1 : Int32).toInt = 1 := rfl
  refine o_aloadN W0 own_d7_0 (v := (.ref b0)) rfl rfl (pc' := 1) rfl ?_
  refine o_callV W0 E0 (rm8_L l Z a0 hw b0 h0 n0 W0.le cs fm ST hcs Fc) (ow hw 41 rfl) (ow hw 42 rfl) (notFace_of_selects (args := #[]) (mvT W0.hZ (ow hw 44 rfl))) (ow hw 44 rfl) (ow hw 43 rfl) (ow hw 8 rfl) (ow hw 45 rfl) (by decide) (argsL := []) (S := []) (lenOf own_pd4 rfl) rfl rfl rfl (wt := 0) rfl (by decide) (by decide) (by decide) (by decide) (kk' := 0) rfl (nn' := 0) rfl own_d7_1 (pc' := 4) rfl ?_
  intro vv T27 h27 W27 q27 z27
  obtain ⟨r27, rfl, q27⟩ := q27
  show OF _ _ _ _ _ _ _ T27 (mkF m 4 #[.val (.ref b0), .val (.int y1), .val (.int (0 : Int32))] [(.int r27)])
  obtain ⟨q27, rfl⟩ := q27
  obtain rfl : r27 = (1 : Int32) := q27
  refine o_if_eq W27 own_d7_4 (by decide) (pq := 23) (by decide) (pc' := 7) rfl (fun hc4 => ?_) (fun hc4 => ?_)
  · exact absurd hc4 (by decide)
  · refine o_aloadN W27 own_d7_7 (v := (.ref b0)) rfl rfl (pc' := 8) rfl ?_
    refine o_getF W27 (ow hw 25 rfl) Fv own_d7_8 (pc' := 11) rfl ?_
    intro T28 W28
    refine o_iloadN W28 own_d7_11 (v := y1) rfl (pc' := 12) rfl ?_
    refine o_iloadN W28 own_d7_12 (v := (0 : Int32)) rfl (pc' := 13) rfl ?_
    refine o_aloadN W28 own_d7_13 (v := (.ref b0)) rfl rfl (pc' := 14) rfl ?_
    refine o_callV W28 E0 (rm9_0L l Z a0 hw b0 h0 n0 W28.le cs fm ST hcs  b1 E0 Fv Fc A1) (ow hw 47 rfl) (ow hw 48 rfl) (notFace_of_selects (args := #[]) (mvT W28.hZ (ow hw 50 rfl))) (ow hw 50 rfl) (ow hw 49 rfl) (ow hw 8 rfl) (ow hw 51 rfl) (by decide) (argsL := []) (S := [(.int (0 : Int32)), (.int y1), (.ref b1)]) (lenOf own_pd5 rfl) rfl rfl rfl (wt := 3) rfl (by decide) (by decide) (by decide) (by decide) (kk' := 0) rfl (nn' := 0) rfl own_d7_14 (pc' := 17) rfl ?_
    intro vv T29 h29 W29 q29 z29
    obtain ⟨r29, rfl, q29⟩ := q29
    show OF _ _ _ _ _ _ _ T29 (mkF m 17 #[.val (.ref b0), .val (.int y1), .val (.int (0 : Int32))] [(.int r29), (.int (0 : Int32)), (.int y1), (.ref b1)])
    obtain ⟨q29, rfl⟩ := q29
    obtain rfl : r29 = (0 : Int32) := q29
    refine o_callSI W29 (rm11_0 l Z a0 hw b1 y1 h0 n0 W29.le hy  A1) (ow hw 57 rfl) (ow hw 58 rfl) (ow hw 59 rfl) (ow hw 60 rfl) (by decide) (argsL := [(.ref b1), (.int y1), (.int (0 : Int32)), (.int (0 : Int32))]) (S := []) (lenOf own_pd6 rfl) rfl rfl rfl (wt := 0) rfl (by decide) (by decide) (by decide) (by decide) (kk' := 0) rfl (nn' := 0) rfl own_d7_17 (pc' := 20) rfl ?_
    intro r30 T30 h30 W30 q30 z30
    obtain ⟨q30, rfl⟩ := q30
    refine o_goto W30 own_d7_20 (by decide) (pq := 36) (by decide) ?_
    refine o_retI W30 rfl own_d7_36 (by decide) (by decide) ?_
    exact ⟨_, rfl, q30, rfl⟩
theorem own_ef6_0L (m : MethodId) (z0 : Addr) (z1 : Int32) : entryFrame m #[(.ref z0), (.int z1)] 2 = mkF m 0 #[.val (.ref z0), .val (.int z1)] [] := by first | (simp [entryFrame, mkF, argsToLocals, Value.category]; done) | rfl
theorem own_d6_0 : decode jdk_42_method_79_code 0 = .ok (.aload_n 0, 1) := by decide +kernel
theorem own_d6_1 : decode jdk_42_method_79_code 1 = .ok (.iload_n 1, 1) := by decide +kernel
theorem own_d6_2 : decode jdk_42_method_79_code 2 = .ok (.iconst 0, 1) := by decide +kernel
theorem own_d6_3 : decode jdk_42_method_79_code 3 = .ok (.invokevirtual 633, 3) := by decide +kernel
theorem own_d6_6 : decode jdk_42_method_79_code 6 = .ok (.ireturn, 1) := by decide +kernel
set_option maxRecDepth 65536 in
set_option maxHeartbeats 4000000 in
theorem rm6_0L (l : Launch) (Z : State) (a0 : Array Value) (hw : ∀ d ∈ tables_1, d.before a0 Z = true) (b0 : Addr) (y1 : Int32) (h0 : Heap) (n0 : Nat) (Z0 : n0 ≤ h0.size) (hy : 0 ≤ y1.toInt ∧ y1.toInt < 128) (cs : Int32) (fm : Value) (ST : OSt Z h0 cs fm) (hcs : ¬ cs.toInt = 0) (hfm : fm.isRef = true)  (b1 : Addr) (E0 : Exa Z h0 b0 "java/lang/String") (Fv : Fld Z h0 b0 "java/lang/String" "value" "[B" (.ref b1)) (Fc : Fld Z h0 b0 "java/lang/String" "coder" "B" (.int (0 : Int32))) (A1 : OA Z h0 b1 .byte []) :
    OCon l Z (⟨"java/lang/String", "indexOf", "(I)I"⟩ : MethodName) jdk_42_method_79_code 2 (some .int) [] ({ frames := 6, cells := 0, slots := 0, locals := 87 } : Room) #[(.ref b0), (.int y1)] h0 n0 (QI fun r h' => ((0 ≤ r.toInt ∧ ((0 : Int) = 1)) ∨ (r.toInt < 0 ∧ ¬ ((0 : Int) = 1))) ∧ h0 = h') := by
  refine OCon.mk (plainFor_of_name own_pn4) Z0 ?_
  intro p e s m below meth cd s₁ W0
  refine OF.cast (own_ef6_0L m b0 y1) ?_
  refine o_aloadN W0 own_d6_0 (v := (.ref b0)) rfl rfl (pc' := 1) rfl ?_
  refine o_iloadN W0 own_d6_1 (v := y1) rfl (pc' := 2) rfl ?_
  refine o_iconst W0 (v := (0 : Int32)) own_d6_2 rfl (pc' := 3) rfl ?_
  refine o_callV W0 E0 (rm7_0L l Z a0 hw b0 y1 h0 n0 W0.le hy cs fm ST hcs hfm  b1 E0 Fv Fc A1) (ow hw 36 rfl) (ow hw 37 rfl) (notFace_of_selects (args := #[]) (mvT W0.hZ (ow hw 39 rfl))) (ow hw 39 rfl) (ow hw 38 rfl) (ow hw 8 rfl) (ow hw 40 rfl) (by decide) (argsL := [(.int y1), (.int (0 : Int32))]) (S := []) (lenOf own_pd3 rfl) rfl rfl rfl (wt := 0) rfl (by decide) (by decide) (by decide) (by decide) (kk' := 0) rfl (nn' := 0) rfl own_d6_3 (pc' := 6) rfl ?_
  intro vv T31 h31 W31 q31 z31
  obtain ⟨r31, rfl, q31⟩ := q31
  show OF _ _ _ _ _ _ _ T31 (mkF m 6 #[.val (.ref b0), .val (.int y1)] [(.int r31)])
  obtain ⟨q31, rfl⟩ := q31
  refine o_retI W31 rfl own_d6_6 (by decide) (by decide) ?_
  exact ⟨_, rfl, q31, rfl⟩
theorem own_pn5 : plainName "com/example/austere_access/austereaccess/policy/Glob" = true := by first | (simp [plainName, overriddenIn]; done) | decide +kernel
theorem own_ef5_0L (m : MethodId) (z0 : Addr) : entryFrame m #[(.ref z0)] 1 = mkF m 0 #[.val (.ref z0)] [] := by first | (simp [entryFrame, mkF, argsToLocals, Value.category]; done) | rfl
theorem own_d5_0 : decode prog_39_method_2_code 0 = .ok (.aload_n 0, 1) := by decide +kernel
theorem own_d5_1 : decode prog_39_method_2_code 1 = .ok (.bipush 42, 2) := by decide +kernel
theorem own_d5_3 : decode prog_39_method_2_code 3 = .ok (.invokevirtual 7, 3) := by decide +kernel
theorem own_pd7 : parseMethodDescriptor "(I)I" = some ⟨[.int], some .int⟩ := by decide +kernel
theorem own_d5_6 : decode prog_39_method_2_code 6 = .ok (.ifCond .ge 16, 3) := by decide +kernel
theorem own_d5_22 : decode prog_39_method_2_code 22 = .ok (.iconst 0, 1) := by decide +kernel
theorem own_d5_23 : decode prog_39_method_2_code 23 = .ok (.ireturn, 1) := by decide +kernel
theorem own_d5_9 : decode prog_39_method_2_code 9 = .ok (.aload_n 0, 1) := by decide +kernel
theorem own_d5_10 : decode prog_39_method_2_code 10 = .ok (.bipush 63, 2) := by decide +kernel
theorem own_d5_12 : decode prog_39_method_2_code 12 = .ok (.invokevirtual 7, 3) := by decide +kernel
theorem own_d5_15 : decode prog_39_method_2_code 15 = .ok (.ifCond .ge 7, 3) := by decide +kernel
theorem own_d5_18 : decode prog_39_method_2_code 18 = .ok (.iconst 1, 1) := by decide +kernel
theorem own_d5_19 : decode prog_39_method_2_code 19 = .ok (.goto 4, 3) := by decide +kernel
set_option maxRecDepth 65536 in
set_option maxHeartbeats 4000000 in
theorem rm5_0L (l : Launch) (Z : State) (a0 : Array Value) (hw : ∀ d ∈ tables_1, d.before a0 Z = true) (b0 : Addr) (h0 : Heap) (n0 : Nat) (Z0 : n0 ≤ h0.size) (cs : Int32) (fm : Value) (ST : OSt Z h0 cs fm) (hcs : ¬ cs.toInt = 0) (hfm : fm.isRef = true)  (b1 : Addr) (E0 : Exa Z h0 b0 "java/lang/String") (Fv : Fld Z h0 b0 "java/lang/String" "value" "[B" (.ref b1)) (Fc : Fld Z h0 b0 "java/lang/String" "coder" "B" (.int (0 : Int32))) (A1 : OA Z h0 b1 .byte []) :
    OCon l Z (⟨"com/example/austere_access/austereaccess/policy/Glob", "isLiteral", "(Ljava/lang/String;)Z"⟩ : MethodName) prog_39_method_2_code 1 (some .boolean) [] ({ frames := 7, cells := 0, slots := 0, locals := 100 } : Room) #[(.ref b0)] h0 n0 (QI fun r h' => ((r = 1 ∧ ¬ ((0 : Int) = 1)) ∨ (r = 0 ∧ ((0 : Int) = 1))) ∧ h0 = h') := by
  refine OCon.mk (plainFor_of_name own_pn5) Z0 ?_
  intro p e s m below meth cd s₁ W0
  refine OF.cast (own_ef5_0L m b0) ?_
  have c42 : (42 : Int32).toInt = 42 := rfl
  have c63 : (63 : Int32).toInt = 63 := rfl
  refine o_aloadN W0 own_d5_0 (v := (.ref b0)) rfl rfl (pc' := 1) rfl ?_
  refine o_bipush W0 (v := (42 : Int32)) own_d5_1 rfl (pc' := 3) rfl ?_
  refine o_callV W0 E0 (rm6_0L l Z a0 hw b0 (42 : Int32) h0 n0 W0.le (by decide) cs fm ST hcs hfm  b1 E0 Fv Fc A1) (ow hw 31 rfl) (ow hw 32 rfl) (notFace_of_selects (args := #[]) (mvT W0.hZ (ow hw 34 rfl))) (ow hw 34 rfl) (ow hw 33 rfl) (ow hw 8 rfl) (ow hw 35 rfl) (by decide) (argsL := [(.int (42 : Int32))]) (S := []) (lenOf own_pd7 rfl) rfl rfl rfl (wt := 0) rfl (by decide) (by decide) (by decide) (by decide) (kk' := 0) rfl (nn' := 0) rfl own_d5_3 (pc' := 6) rfl ?_
  intro vv T32 h32 W32 q32 z32
  obtain ⟨r32, rfl, q32⟩ := q32
  show OF _ _ _ _ _ _ _ T32 (mkF m 6 #[.val (.ref b0)] [(.int r32)])
  obtain ⟨q32, rfl⟩ := q32
  refine o_if_ge W32 own_d5_6 (by decide) (pq := 22) (by decide) (pc' := 9) rfl (fun hc6 => ?_) (fun hc6 => ?_)
  · refine o_iconst W32 (v := (0 : Int32)) own_d5_22 rfl (pc' := 23) rfl ?_
    refine o_retN W32 (t := .boolean) rfl (by simp) own_d5_23 (by decide) (by decide) ?_
    exact ⟨(0 : Int32), rfl, Or.inr ⟨rfl, by omega⟩, rfl⟩
  · refine o_aloadN W32 own_d5_9 (v := (.ref b0)) rfl rfl (pc' := 10) rfl ?_
    refine o_bipush W32 (v := (63 : Int32)) own_d5_10 rfl (pc' := 12) rfl ?_
    refine o_callV W32 E0 (rm6_0L l Z a0 hw b0 (63 : Int32) h0 n0 W32.le (by decide) cs fm ST hcs hfm  b1 E0 Fv Fc A1) (ow hw 31 rfl) (ow hw 32 rfl) (notFace_of_selects (args := #[]) (mvT W32.hZ (ow hw 34 rfl))) (ow hw 34 rfl) (ow hw 33 rfl) (ow hw 8 rfl) (ow hw 35 rfl) (by decide) (argsL := [(.int (63 : Int32))]) (S := []) (lenOf own_pd7 rfl) rfl rfl rfl (wt := 0) rfl (by decide) (by decide) (by decide) (by decide) (kk' := 0) rfl (nn' := 0) rfl own_d5_12 (pc' := 15) rfl ?_
    intro vv T33 h33 W33 q33 z33
    obtain ⟨r33, rfl, q33⟩ := q33
    show OF _ _ _ _ _ _ _ T33 (mkF m 15 #[.val (.ref b0)] [(.int r33)])
    obtain ⟨q33, rfl⟩ := q33
    refine o_if_ge W33 own_d5_15 (by decide) (pq := 22) (by decide) (pc' := 18) rfl (fun hc15 => ?_) (fun hc15 => ?_)
    · refine o_iconst W33 (v := (0 : Int32)) own_d5_22 rfl (pc' := 23) rfl ?_
      refine o_retN W33 (t := .boolean) rfl (by simp) own_d5_23 (by decide) (by decide) ?_
      exact ⟨(0 : Int32), rfl, Or.inr ⟨rfl, by omega⟩, rfl⟩
    · refine o_iconst W33 (v := (1 : Int32)) own_d5_18 rfl (pc' := 19) rfl ?_
      refine o_goto W33 own_d5_19 (by decide) (pq := 23) (by decide) ?_
      refine o_retN W33 (t := .boolean) rfl (by simp) own_d5_23 (by decide) (by decide) ?_
      exact ⟨(1 : Int32), rfl, Or.inl ⟨rfl, by omega⟩, rfl⟩
theorem own_ef16_1 (m : MethodId) (z0 : Addr) (z1 : Int32) (z2 : Addr) (z3 : Int32) (z4 : Int32) : entryFrame m #[(.ref z0), (.int z1), (.ref z2), (.int z3), (.int z4)] 7 = mkF m 0 #[.val (.ref z0), .val (.int z1), .val (.ref z2), .val (.int z3), .val (.int z4), .unset, .unset] [] := by first | (simp [entryFrame, mkF, argsToLocals, Value.category]; done) | rfl
theorem own_d16_0 : decode jdk_52_method_21_code 0 = .ok (.iconst 0, 1) := by decide +kernel
theorem own_d16_1 : decode jdk_52_method_21_code 1 = .ok (.istore 5, 2) := by decide +kernel
theorem own_d16_3 : decode jdk_52_method_21_code 3 = .ok (.iload 5, 2) := by decide +kernel
theorem own_d16_5 : decode jdk_52_method_21_code 5 = .ok (.iload 4, 2) := by decide +kernel
theorem own_d16_7 : decode jdk_52_method_21_code 7 = .ok (.if_icmp .ge 37, 3) := by decide +kernel
theorem own_d16_10 : decode jdk_52_method_21_code 10 = .ok (.aload_n 0, 1) := by decide +kernel
theorem own_d16_11 : decode jdk_52_method_21_code 11 = .ok (.iload_n 1, 1) := by decide +kernel
theorem own_d16_12 : decode jdk_52_method_21_code 12 = .ok (.caload, 1) := by decide +kernel
theorem own_d16_13 : decode jdk_52_method_21_code 13 = .ok (.istore 6, 2) := by decide +kernel
theorem own_d16_15 : decode jdk_52_method_21_code 15 = .ok (.iload 6, 2) := by decide +kernel
theorem own_d16_17 : decode jdk_52_method_21_code 17 = .ok (.sipush 255, 3) := by decide +kernel
theorem own_d16_20 : decode jdk_52_method_21_code 20 = .ok (.if_icmp .le 6, 3) := by decide +kernel
theorem own_d16_26 : decode jdk_52_method_21_code 26 = .ok (.aload_n 2, 1) := by decide +kernel
theorem own_d16_27 : decode jdk_52_method_21_code 27 = .ok (.iload_n 3, 1) := by decide +kernel
theorem own_d16_28 : decode jdk_52_method_21_code 28 = .ok (.iload 6, 2) := by decide +kernel
theorem own_d16_30 : decode jdk_52_method_21_code 30 = .ok (.i2b, 1) := by decide +kernel
theorem own_d16_31 : decode jdk_52_method_21_code 31 = .ok (.bastore, 1) := by decide +kernel
theorem own_d16_32 : decode jdk_52_method_21_code 32 = .ok (.iinc 1 1, 3) := by decide +kernel
theorem own_d16_35 : decode jdk_52_method_21_code 35 = .ok (.iinc 3 1, 3) := by decide +kernel
theorem own_d16_38 : decode jdk_52_method_21_code 38 = .ok (.iinc 5 1, 3) := by decide +kernel
theorem own_d16_41 : decode jdk_52_method_21_code 41 = .ok (.goto (-38), 3) := by decide +kernel
theorem own_d16_44 : decode jdk_52_method_21_code 44 = .ok (.iload 4, 2) := by decide +kernel
theorem own_d16_46 : decode jdk_52_method_21_code 46 = .ok (.ireturn, 1) := by decide +kernel
theorem own_d16_23 : decode jdk_52_method_21_code 23 = .ok (.iload 5, 2) := by decide +kernel
theorem own_d16_25 : decode jdk_52_method_21_code 25 = .ok (.ireturn, 1) := by decide +kernel
set_option maxRecDepth 65536 in
set_option maxHeartbeats 4000000 in
theorem rm16_1 (l : Launch) (Z : State) (a0 : Array Value) (hw : ∀ d ∈ tables_1, d.before a0 Z = true) (b0 b1 : Addr) (h0 : Heap) (n0 : Nat) (Z0 : n0 ≤ h0.size) (cs : Int32) (fm : Value) (ST : OSt Z h0 cs fm) (k0 : Int32) (hk0 : 0 ≤ k0.toInt ∧ k0.toInt ≤ 65535) (A0 : OA Z h0 b0 .char [k0]) (A1 : OA Z h0 b1 .byte [0]) (g1 : n0 ≤ b1) (ne_b0_b1 : b0 ≠ b1) :
    OCon l Z (⟨"java/lang/StringUTF16", "compress", "([CI[BII)I"⟩ : MethodName) jdk_52_method_21_code 7 (some .int) [] ({ frames := 0, cells := 0, slots := 0, locals := 0 } : Room) #[(.ref b0), (.int (0 : Int32)), (.ref b1), (.int (0 : Int32)), (.int (1 : Int32))] h0 n0 (QI fun r h' => Keep h0 h' [b1] ∧ OSt Z h' cs fm ∧ ((r = (0 : Int32) ∧ 255 < k0.toInt) ∨ (r = (1 : Int32) ∧ (k0.toInt ≤ 255) ∧ OA Z h' b1 .byte [own_b k0]))) := by
  refine OCon.mk (plainFor_of_name own_pn2) Z0 ?_
  intro p e s m below meth cd s₁ W0
  refine OF.cast (own_ef16_1 m b0 (0 : Int32) b1 (0 : Int32) (1 : Int32)) ?_
  have c_0___Int32_ : (0 : Int32).toInt = 0 := rfl
  have c_1___Int32_ : (1 : Int32).toInt = 1 := rfl
  have c_255___Int32_ : (255 : Int32).toInt = 255 := rfl
  refine o_iconst W0 (v := (0 : Int32)) own_d16_0 rfl (pc' := 1) rfl ?_
  refine o_istore W0 (L' := #[.val (.ref b0), .val (.int (0 : Int32)), .val (.ref b1), .val (.int (0 : Int32)), .val (.int (1 : Int32)), .val (.int (0 : Int32)), .unset]) own_d16_1 rfl (pc' := 3) rfl ?_
  refine o_iload W0 own_d16_3 (v := (0 : Int32)) rfl (pc' := 5) rfl ?_
  refine o_iload W0 own_d16_5 (v := (1 : Int32)) rfl (pc' := 7) rfl ?_
  refine o_icmp_ge W0 own_d16_7 (by decide) (pq := 44) (by decide) (pc' := 10) rfl (fun hc7 => ?_) (fun hc7 => ?_)
  · exact absurd hc7 (by decide)
  · refine o_aloadN W0 own_d16_10 (v := (.ref b0)) rfl rfl (pc' := 11) rfl ?_
    refine o_iloadN W0 own_d16_11 (v := (0 : Int32)) rfl (pc' := 12) rfl ?_
    refine o_caload W0 A0 own_d16_12 (pc' := 13) rfl (i := 0) (v := k0) rfl rfl ?_
    refine o_istore W0 (L' := #[.val (.ref b0), .val (.int (0 : Int32)), .val (.ref b1), .val (.int (0 : Int32)), .val (.int (1 : Int32)), .val (.int (0 : Int32)), .val (.int k0)]) own_d16_13 rfl (pc' := 15) rfl ?_
    refine o_iload W0 own_d16_15 (v := k0) rfl (pc' := 17) rfl ?_
    refine o_sipush W0 (v := (255 : Int32)) own_d16_17 rfl (pc' := 20) rfl ?_
    refine o_icmp_le W0 own_d16_20 (by decide) (pq := 26) (by decide) (pc' := 23) rfl (fun hc20 => ?_) (fun hc20 => ?_)
    · refine o_aloadN W0 own_d16_26 (v := (.ref b1)) rfl rfl (pc' := 27) rfl ?_
      refine o_iloadN W0 own_d16_27 (v := (0 : Int32)) rfl (pc' := 28) rfl ?_
      refine o_iload W0 own_d16_28 (v := k0) rfl (pc' := 30) rfl ?_
      refine o_i2b W0 own_d16_30 (pc' := 31) rfl ?_
      refine o_bastore W0 A1 g1 own_d16_31 (pc' := 32) rfl (i := 0) rfl (Nat.le_of_ble_eq_true rfl) ?_
      intro T34 h34 W34 K34 A_b1_34
      have A_b0_34 := A0.keep1 K34 ne_b0_b1
      have ST_34 := ST.keepA A1 K34
      have A_b1_34 : OA Z h34 b1 .byte [((k0.toInt8.toInt32).toInt8.toInt32)] := A_b1_34
      have KK_K34 : Keep h0 h34 [b1] := (Keep.refl _ _).trans K34 (fun x hx => Or.inl hx)
      refine o_iinc W34 (x := (0 : Int32)) (L' := #[.val (.ref b0), .val (.int ((0 : Int32) + (1 : Int32))), .val (.ref b1), .val (.int (0 : Int32)), .val (.int (1 : Int32)), .val (.int (0 : Int32)), .val (.int k0)]) own_d16_32 rfl rfl (pc' := 35) rfl ?_
      show OF _ _ _ _ _ _ _ T34 (mkF m 35 #[.val (.ref b0), .val (.int (1 : Int32)), .val (.ref b1), .val (.int (0 : Int32)), .val (.int (1 : Int32)), .val (.int (0 : Int32)), .val (.int k0)] [])
      refine o_iinc W34 (x := (0 : Int32)) (L' := #[.val (.ref b0), .val (.int (1 : Int32)), .val (.ref b1), .val (.int ((0 : Int32) + (1 : Int32))), .val (.int (1 : Int32)), .val (.int (0 : Int32)), .val (.int k0)]) own_d16_35 rfl rfl (pc' := 38) rfl ?_
      show OF _ _ _ _ _ _ _ T34 (mkF m 38 #[.val (.ref b0), .val (.int (1 : Int32)), .val (.ref b1), .val (.int (1 : Int32)), .val (.int (1 : Int32)), .val (.int (0 : Int32)), .val (.int k0)] [])
      refine o_iinc W34 (x := (0 : Int32)) (L' := #[.val (.ref b0), .val (.int (1 : Int32)), .val (.ref b1), .val (.int (1 : Int32)), .val (.int (1 : Int32)), .val (.int ((0 : Int32) + (1 : Int32))), .val (.int k0)]) own_d16_38 rfl rfl (pc' := 41) rfl ?_
      show OF _ _ _ _ _ _ _ T34 (mkF m 41 #[.val (.ref b0), .val (.int (1 : Int32)), .val (.ref b1), .val (.int (1 : Int32)), .val (.int (1 : Int32)), .val (.int (1 : Int32)), .val (.int k0)] [])
      refine o_goto W34 own_d16_41 (by decide) (pq := 3) (by decide) ?_
      refine o_iload W34 own_d16_3 (v := (1 : Int32)) rfl (pc' := 5) rfl ?_
      refine o_iload W34 own_d16_5 (v := (1 : Int32)) rfl (pc' := 7) rfl ?_
      refine o_icmp_ge W34 own_d16_7 (by decide) (pq := 44) (by decide) (pc' := 10) rfl (fun hc7 => ?_) (fun hc7 => ?_)
      · refine o_iload W34 own_d16_44 (v := (1 : Int32)) rfl (pc' := 46) rfl ?_
        refine o_retI W34 rfl own_d16_46 (by decide) (by decide) ?_
        exact ⟨_, rfl, KK_K34, ST_34, Or.inr (⟨rfl, by omega, A_b1_34⟩)⟩
      · exact absurd hc7 (by decide)
    · refine o_iload W0 own_d16_23 (v := (0 : Int32)) rfl (pc' := 25) rfl ?_
      refine o_retI W0 rfl own_d16_25 (by decide) (by decide) ?_
      exact ⟨_, rfl, Keep.refl _ _, ST, Or.inl (⟨rfl, by omega⟩)⟩
theorem own_ef21_1 (m : MethodId) (z0 : Int32) : entryFrame m #[(.int z0)] 1 = mkF m 0 #[.val (.int z0)] [] := by first | (simp [entryFrame, mkF, argsToLocals, Value.category]; done) | rfl
theorem own_d21_0 : decode jdk_52_method_2_code 0 = .ok (.iload_n 0, 1) := by decide +kernel
theorem own_d21_1 : decode jdk_52_method_2_code 1 = .ok (.invokestatic 11, 3) := by decide +kernel
theorem own_d21_4 : decode jdk_52_method_2_code 4 = .ok (.newarray .byte, 2) := by decide +kernel
theorem own_d21_6 : decode jdk_52_method_2_code 6 = .ok (.areturn, 1) := by decide +kernel
set_option maxRecDepth 65536 in
set_option maxHeartbeats 4000000 in
theorem rm21_1 (l : Launch) (Z : State) (a0 : Array Value) (hw : ∀ d ∈ tables_1, d.before a0 Z = true)  (h0 : Heap) (n0 : Nat) (Z0 : n0 ≤ h0.size) (cs : Int32) (fm : Value) (ST : OSt Z h0 cs fm) :
    OCon l Z (⟨"java/lang/StringUTF16", "newBytesFor", "(I)[B"⟩ : MethodName) jdk_52_method_2_code 1 (some (.array .byte)) [] ({ frames := 1, cells := 1, slots := 2, locals := 12 } : Room) #[(.int (1 : Int32))] h0 n0 (QA fun r h' => r = h0.size ∧ Keep h0 h' [] ∧ OSt Z h' cs fm ∧ OA Z h' r .byte [0, 0]) := by
  refine OCon.mk (plainFor_of_name own_pn2) Z0 ?_
  intro p e s m below meth cd s₁ W0
  refine OF.cast (own_ef21_1 m (1 : Int32)) ?_
  refine o_iloadN W0 own_d21_0 (v := (1 : Int32)) rfl (pc' := 1) rfl ?_
  refine o_callSI W0 (rm22 l Z a0 hw (1 : Int32) h0 n0 W0.le (by decide)) (ow hw 93 rfl) (ow hw 94 rfl) (ow hw 73 rfl) (ow hw 95 rfl) (by decide) (argsL := [(.int (1 : Int32))]) (S := []) (lenOf own_pd7 rfl) rfl rfl rfl (wt := 0) rfl (by decide) (by decide) (by decide) (by decide) (kk' := 0) rfl (nn' := 0) rfl own_d21_1 (pc' := 4) rfl ?_
  intro r35 T35 h35 W35 q35 z35
  obtain ⟨q35, rfl⟩ := q35
  obtain rfl : r35 = (2 : Int32) := q35
  refine o_newarray W35 (ty := .byte) (len := 2) (cap := 2) (ow hw 20 rfl) rfl rfl rfl own_d21_4 (pc' := 6) rfl rfl (by decide) (by decide) (by decide) (by decide) (kk' := 1) rfl (nn' := 2) rfl ?_
  intro T37 h37 a36 W37 E37 g_a36 A_a36
  have b_a36 : n0 ≤ a36 := by rw [g_a36]; exact W35.le
  have A_a36 : OA Z h37 a36 .byte [0, 0] := A_a36
  have ST_37 := ST.ext E37
  refine o_retA W37 (t := (.array .byte)) rfl rfl rfl rfl own_d21_6 (by decide) (by decide) ?_
  exact ⟨_, rfl, g_a36, (Keep.refl h0 []).ext E37, ST_37, A_a36⟩
theorem own_ef20_1 (m : MethodId) (z0 : Addr) (z1 : Int32) (z2 : Int32) : entryFrame m #[(.ref z0), (.int z1), (.int z2)] 5 = mkF m 0 #[.val (.ref z0), .val (.int z1), .val (.int z2), .unset, .unset] [] := by first | (simp [entryFrame, mkF, argsToLocals, Value.category]; done) | rfl
theorem own_d20_0 : decode jdk_52_method_14_code 0 = .ok (.iload_n 2, 1) := by decide +kernel
theorem own_d20_1 : decode jdk_52_method_14_code 1 = .ok (.invokestatic 107, 3) := by decide +kernel
theorem own_pd8 : parseMethodDescriptor "(I)[B" = some ⟨[.int], some (.array .byte)⟩ := by decide +kernel
theorem own_d20_4 : decode jdk_52_method_14_code 4 = .ok (.astore_n 3, 1) := by decide +kernel
theorem own_d20_5 : decode jdk_52_method_14_code 5 = .ok (.iconst 0, 1) := by decide +kernel
theorem own_d20_6 : decode jdk_52_method_14_code 6 = .ok (.istore 4, 2) := by decide +kernel
theorem own_d20_8 : decode jdk_52_method_14_code 8 = .ok (.iload 4, 2) := by decide +kernel
theorem own_d20_10 : decode jdk_52_method_14_code 10 = .ok (.iload_n 2, 1) := by decide +kernel
theorem own_d20_11 : decode jdk_52_method_14_code 11 = .ok (.if_icmp .ge 21, 3) := by decide +kernel
theorem own_d20_14 : decode jdk_52_method_14_code 14 = .ok (.aload_n 3, 1) := by decide +kernel
theorem own_d20_15 : decode jdk_52_method_14_code 15 = .ok (.iload 4, 2) := by decide +kernel
theorem own_d20_17 : decode jdk_52_method_14_code 17 = .ok (.aload_n 0, 1) := by decide +kernel
theorem own_d20_18 : decode jdk_52_method_14_code 18 = .ok (.iload_n 1, 1) := by decide +kernel
theorem own_d20_19 : decode jdk_52_method_14_code 19 = .ok (.caload, 1) := by decide +kernel
theorem own_d20_20 : decode jdk_52_method_14_code 20 = .ok (.invokestatic 111, 3) := by decide +kernel
theorem own_pd9 : parseMethodDescriptor "([BII)V" = some ⟨[(.array .byte), .int, .int], none⟩ := by decide +kernel
theorem own_d20_23 : decode jdk_52_method_14_code 23 = .ok (.iinc 1 1, 3) := by decide +kernel
theorem own_d20_26 : decode jdk_52_method_14_code 26 = .ok (.iinc 4 1, 3) := by decide +kernel
theorem own_d20_29 : decode jdk_52_method_14_code 29 = .ok (.goto (-21), 3) := by decide +kernel
theorem own_d20_32 : decode jdk_52_method_14_code 32 = .ok (.aload_n 3, 1) := by decide +kernel
theorem own_d20_33 : decode jdk_52_method_14_code 33 = .ok (.areturn, 1) := by decide +kernel
set_option maxRecDepth 65536 in
set_option maxHeartbeats 4000000 in
theorem rm20_1 (l : Launch) (Z : State) (a0 : Array Value) (hw : ∀ d ∈ tables_1, d.before a0 Z = true) (b0 : Addr) (h0 : Heap) (n0 : Nat) (Z0 : n0 ≤ h0.size) (cs : Int32) (fm : Value) (ST : OSt Z h0 cs fm) (k0 : Int32) (hk0 : 0 ≤ k0.toInt ∧ k0.toInt ≤ 65535) (A0 : OA Z h0 b0 .char [k0]) :
    OCon l Z (⟨"java/lang/StringUTF16", "toBytes", "([CII)[B"⟩ : MethodName) jdk_52_method_14_code 5 (some (.array .byte)) [] ({ frames := 2, cells := 1, slots := 2, locals := 24 } : Room) #[(.ref b0), (.int (0 : Int32)), (.int (1 : Int32))] h0 n0 (QA fun r h' => r = h0.size ∧ Keep h0 h' [] ∧ OSt Z h' cs fm ∧ OA Z h' r .byte [own_lo k0, own_hi k0]) := by
  refine OCon.mk (plainFor_of_name own_pn2) Z0 ?_
  intro p e s m below meth cd s₁ W0
  refine OF.cast (own_ef20_1 m b0 (0 : Int32) (1 : Int32)) ?_
  have c_0___Int32_ : (0 : Int32).toInt = 0 := rfl
  have c_1___Int32_ : (1 : Int32).toInt = 1 := rfl
  refine o_iloadN W0 own_d20_0 (v := (1 : Int32)) rfl (pc' := 1) rfl ?_
  refine o_callSA W0 (rm21_1 l Z a0 hw h0 n0 W0.le cs fm ST) (ow hw 90 rfl) (ow hw 91 rfl) (ow hw 73 rfl) (ow hw 92 rfl) (by decide) (argsL := [(.int (1 : Int32))]) (S := []) (lenOf own_pd8 rfl) rfl rfl rfl (wt := 0) rfl (by decide) (by decide) (by decide) (by decide) (kk' := 1) rfl (nn' := 2) rfl own_d20_1 (pc' := 4) rfl ?_
  intro r38 T38 h38 W38 q38 z38
  obtain ⟨gr, KB, ST_38, AB⟩ := q38
  have A0_38 := A0.keep KB nin0
  have ne_b0_r38 : b0 ≠ r38 := Nat.ne_of_lt (Nat.lt_of_lt_of_le A0.lt (Nat.le_of_eq gr.symm))
  have gb : n0 ≤ r38 := by rw [gr]; exact Z0
  have KK := KB
  refine o_astoreN W38 (L' := #[.val (.ref b0), .val (.int (0 : Int32)), .val (.int (1 : Int32)), .val (.ref r38), .unset]) own_d20_4 rfl rfl (pc' := 5) rfl ?_
  refine o_iconst W38 (v := (0 : Int32)) own_d20_5 rfl (pc' := 6) rfl ?_
  refine o_istore W38 (L' := #[.val (.ref b0), .val (.int (0 : Int32)), .val (.int (1 : Int32)), .val (.ref r38), .val (.int (0 : Int32))]) own_d20_6 rfl (pc' := 8) rfl ?_
  refine o_iload W38 own_d20_8 (v := (0 : Int32)) rfl (pc' := 10) rfl ?_
  refine o_iloadN W38 own_d20_10 (v := (1 : Int32)) rfl (pc' := 11) rfl ?_
  refine o_icmp_ge W38 own_d20_11 (by decide) (pq := 32) (by decide) (pc' := 14) rfl (fun hc11 => ?_) (fun hc11 => ?_)
  · exact absurd hc11 (by decide)
  · refine o_aloadN W38 own_d20_14 (v := (.ref r38)) rfl rfl (pc' := 15) rfl ?_
    refine o_iload W38 own_d20_15 (v := (0 : Int32)) rfl (pc' := 17) rfl ?_
    refine o_aloadN W38 own_d20_17 (v := (.ref b0)) rfl rfl (pc' := 18) rfl ?_
    refine o_iloadN W38 own_d20_18 (v := (0 : Int32)) rfl (pc' := 19) rfl ?_
    refine o_caload W38 A0_38 own_d20_19 (pc' := 20) rfl (i := 0) (v := k0) rfl rfl ?_
    refine o_callS W38 (rm23 l Z a0 hw r38 (0 : Int32) k0 h38 n0 W38.le cs fm ST_38 _ 0 AB gb rfl (by decide) (Nat.le_of_ble_eq_true rfl)) (ow hw 97 rfl) (ow hw 98 rfl) (ow hw 73 rfl) (ow hw 99 rfl) (by decide) (argsL := [(.ref r38), (.int (0 : Int32)), (.int k0)]) (S := []) (lenOf own_pd9 rfl) rfl rfl rfl (wt := 0) rfl (by decide) (by decide) (by decide) (by decide) (kk' := 1) rfl (nn' := 2) rfl own_d20_20 (pc' := 23) rfl ?_
    intro r39 T39 h39 W39 q39 z39
    obtain ⟨rfl, q39⟩ := q39
    show OF _ _ _ _ _ _ _ T39 (mkF m 23 #[.val (.ref b0), .val (.int (0 : Int32)), .val (.int (1 : Int32)), .val (.ref r38), .val (.int (0 : Int32))] [])
    obtain ⟨KP, ST_39, AB_39⟩ := q39
    have AB_39 : OA Z h39 r38 .byte [own_lo k0, own_hi k0] := AB_39
    have A0_39 := A0_38.keep1 KP ne_b0_r38
    have KK : Keep h0 h39 [] := KK.trans KP (fun x hx => Or.inr (by simp only [List.mem_singleton] at hx; rw [hx, gr]; exact Nat.le_refl _))
    refine o_iinc W39 (x := (0 : Int32)) (L' := #[.val (.ref b0), .val (.int ((0 : Int32) + (1 : Int32))), .val (.int (1 : Int32)), .val (.ref r38), .val (.int (0 : Int32))]) own_d20_23 rfl rfl (pc' := 26) rfl ?_
    show OF _ _ _ _ _ _ _ T39 (mkF m 26 #[.val (.ref b0), .val (.int (1 : Int32)), .val (.int (1 : Int32)), .val (.ref r38), .val (.int (0 : Int32))] [])
    refine o_iinc W39 (x := (0 : Int32)) (L' := #[.val (.ref b0), .val (.int (1 : Int32)), .val (.int (1 : Int32)), .val (.ref r38), .val (.int ((0 : Int32) + (1 : Int32)))]) own_d20_26 rfl rfl (pc' := 29) rfl ?_
    show OF _ _ _ _ _ _ _ T39 (mkF m 29 #[.val (.ref b0), .val (.int (1 : Int32)), .val (.int (1 : Int32)), .val (.ref r38), .val (.int (1 : Int32))] [])
    refine o_goto W39 own_d20_29 (by decide) (pq := 8) (by decide) ?_
    refine o_iload W39 own_d20_8 (v := (1 : Int32)) rfl (pc' := 10) rfl ?_
    refine o_iloadN W39 own_d20_10 (v := (1 : Int32)) rfl (pc' := 11) rfl ?_
    refine o_icmp_ge W39 own_d20_11 (by decide) (pq := 32) (by decide) (pc' := 14) rfl (fun hc11 => ?_) (fun hc11 => ?_)
    · refine o_aloadN W39 own_d20_32 (v := (.ref r38)) rfl rfl (pc' := 33) rfl ?_
      refine o_retA W39 (t := (.array .byte)) rfl rfl rfl rfl own_d20_33 (by decide) (by decide) ?_
      exact ⟨_, rfl, gr, KK, ST_39, AB_39⟩
    · exact absurd hc11 (by decide)
theorem own_ef15_1 (m : MethodId) (z0 : Addr) (z1 : Int32) (z2 : Int32) : entryFrame m #[(.ref z0), (.int z1), (.int z2)] 6 = mkF m 0 #[.val (.ref z0), .val (.int z1), .val (.int z2), .unset, .unset, .unset] [] := by first | (simp [entryFrame, mkF, argsToLocals, Value.category]; done) | rfl
theorem own_d15_0 : decode jdk_52_method_16_code 0 = .ok (.iload_n 2, 1) := by decide +kernel
theorem own_d15_1 : decode jdk_52_method_16_code 1 = .ok (.newarray .byte, 2) := by decide +kernel
theorem own_d15_3 : decode jdk_52_method_16_code 3 = .ok (.astore_n 3, 1) := by decide +kernel
theorem own_d15_4 : decode jdk_52_method_16_code 4 = .ok (.aload_n 0, 1) := by decide +kernel
theorem own_d15_5 : decode jdk_52_method_16_code 5 = .ok (.iload_n 1, 1) := by decide +kernel
theorem own_d15_6 : decode jdk_52_method_16_code 6 = .ok (.aload_n 3, 1) := by decide +kernel
theorem own_d15_7 : decode jdk_52_method_16_code 7 = .ok (.iconst 0, 1) := by decide +kernel
theorem own_d15_8 : decode jdk_52_method_16_code 8 = .ok (.iload_n 2, 1) := by decide +kernel
theorem own_d15_9 : decode jdk_52_method_16_code 9 = .ok (.invokestatic 115, 3) := by decide +kernel
theorem own_pd10 : parseMethodDescriptor "([CI[BII)I" = some ⟨[(.array .char), .int, (.array .byte), .int, .int], some .int⟩ := by decide +kernel
theorem own_d15_12 : decode jdk_52_method_16_code 12 = .ok (.istore 4, 2) := by decide +kernel
theorem own_d15_14 : decode jdk_52_method_16_code 14 = .ok (.iload 4, 2) := by decide +kernel
theorem own_d15_16 : decode jdk_52_method_16_code 16 = .ok (.iload_n 2, 1) := by decide +kernel
theorem own_d15_17 : decode jdk_52_method_16_code 17 = .ok (.if_icmp .eq 40, 3) := by decide +kernel
theorem own_d15_20 : decode jdk_52_method_16_code 20 = .ok (.aload_n 0, 1) := by decide +kernel
theorem own_d15_21 : decode jdk_52_method_16_code 21 = .ok (.iload_n 1, 1) := by decide +kernel
theorem own_d15_22 : decode jdk_52_method_16_code 22 = .ok (.iload_n 2, 1) := by decide +kernel
theorem own_d15_23 : decode jdk_52_method_16_code 23 = .ok (.invokestatic 119, 3) := by decide +kernel
theorem own_pd11 : parseMethodDescriptor "([CII)[B" = some ⟨[(.array .char), .int, .int], some (.array .byte)⟩ := by decide +kernel
theorem own_d15_26 : decode jdk_52_method_16_code 26 = .ok (.astore 5, 2) := by decide +kernel
theorem own_d15_28 : decode jdk_52_method_16_code 28 = .ok (.aload 5, 2) := by decide +kernel
theorem own_d15_30 : decode jdk_52_method_16_code 30 = .ok (.iload 4, 2) := by decide +kernel
theorem own_d15_32 : decode jdk_52_method_16_code 32 = .ok (.invokestatic 71, 3) := by decide +kernel
theorem own_pd12 : parseMethodDescriptor "([BI)C" = some ⟨[(.array .byte), .int], some .char⟩ := by decide +kernel
theorem own_d15_35 : decode jdk_52_method_16_code 35 = .ok (.sipush 255, 3) := by decide +kernel
theorem own_d15_38 : decode jdk_52_method_16_code 38 = .ok (.if_icmp .gt 16, 3) := by decide +kernel
theorem own_d15_54 : decode jdk_52_method_16_code 54 = .ok (.aload 5, 2) := by decide +kernel
theorem own_d15_56 : decode jdk_52_method_16_code 56 = .ok (.areturn, 1) := by decide +kernel
theorem own_d15_57 : decode jdk_52_method_16_code 57 = .ok (.aload_n 3, 1) := by decide +kernel
theorem own_d15_58 : decode jdk_52_method_16_code 58 = .ok (.areturn, 1) := by decide +kernel
set_option maxRecDepth 65536 in
set_option maxHeartbeats 4000000 in
theorem rm15_1 (l : Launch) (Z : State) (a0 : Array Value) (hw : ∀ d ∈ tables_1, d.before a0 Z = true) (b0 : Addr) (h0 : Heap) (n0 : Nat) (Z0 : n0 ≤ h0.size) (cs : Int32) (fm : Value) (ST : OSt Z h0 cs fm) (k0 : Int32) (hk0 : 0 ≤ k0.toInt ∧ k0.toInt ≤ 65535) (A0 : OA Z h0 b0 .char [k0]) :
    OCon l Z (⟨"java/lang/StringUTF16", "compress", "([CII)[B"⟩ : MethodName) jdk_52_method_16_code 6 (some (.array .byte)) [] ({ frames := 3, cells := 2, slots := 3, locals := 40 } : Room) #[(.ref b0), (.int (0 : Int32)), (.int (1 : Int32))] h0 n0 (QA fun r h' => h0.size ≤ r ∧ Keep h0 h' [] ∧ OSt Z h' cs fm ∧ (((k0.toInt ≤ 255) ∧ OA Z h' r .byte [own_b k0]) ∨ OA Z h' r .byte [own_lo k0, own_hi k0])) := by
  refine OCon.mk (plainFor_of_name own_pn2) Z0 ?_
  intro p e s m below meth cd s₁ W0
  refine OF.cast (own_ef15_1 m b0 (0 : Int32) (1 : Int32)) ?_
  have c_0___Int32_ : (0 : Int32).toInt = 0 := rfl
  have c_1___Int32_ : (1 : Int32).toInt = 1 := rfl
  have c_255___Int32_ : (255 : Int32).toInt = 255 := rfl
  refine o_iloadN W0 own_d15_0 (v := (1 : Int32)) rfl (pc' := 1) rfl ?_
  refine o_newarray W0 (ty := .byte) (len := 1) (cap := 1) (ow hw 20 rfl) rfl rfl rfl own_d15_1 (pc' := 3) rfl rfl (by decide) (by decide) (by decide) (by decide) (kk' := 1) rfl (nn' := 1) rfl ?_
  intro T41 h41 a40 W41 E41 g_a40 A_a40
  have b_a40 : n0 ≤ a40 := by rw [g_a40]; exact W0.le
  have ne_b0_a40 : b0 ≠ a40 := Nat.ne_of_lt (Nat.lt_of_lt_of_le A0.lt (Nat.le_of_eq g_a40.symm))
  have A_b0_41 := A0.ext E41
  have A_a40 : OA Z h41 a40 .byte [0] := A_a40
  have ST_41 := ST.ext E41
  have EE := E41
  refine o_astoreN W41 (L' := #[.val (.ref b0), .val (.int (0 : Int32)), .val (.int (1 : Int32)), .val (.ref a40), .unset, .unset]) own_d15_3 rfl rfl (pc' := 4) rfl ?_
  refine o_aloadN W41 own_d15_4 (v := (.ref b0)) rfl rfl (pc' := 5) rfl ?_
  refine o_iloadN W41 own_d15_5 (v := (0 : Int32)) rfl (pc' := 6) rfl ?_
  refine o_aloadN W41 own_d15_6 (v := (.ref a40)) rfl rfl (pc' := 7) rfl ?_
  refine o_iconst W41 (v := (0 : Int32)) own_d15_7 rfl (pc' := 8) rfl ?_
  refine o_iloadN W41 own_d15_8 (v := (1 : Int32)) rfl (pc' := 9) rfl ?_
  refine o_callSI W41 (rm16_1 l Z a0 hw b0 a40 h41 n0 W41.le cs fm ST_41 k0 hk0 A_b0_41 A_a40 b_a40 ne_b0_a40) (ow hw 75 rfl) (ow hw 76 rfl) (ow hw 73 rfl) (ow hw 77 rfl) (by decide) (argsL := [(.ref b0), (.int (0 : Int32)), (.ref a40), (.int (0 : Int32)), (.int (1 : Int32))]) (S := []) (lenOf own_pd10 rfl) rfl rfl rfl (wt := 0) rfl (by decide) (by decide) (by decide) (by decide) (kk' := 1) rfl (nn' := 1) rfl own_d15_9 (pc' := 12) rfl ?_
  intro r42 T42 h42 W42 q42 z42
  obtain ⟨KC, ST_42, q42⟩ := q42
  have A0_42 := A_b0_41.keep1 KC ne_b0_a40
  have KK : Keep h0 h42 [] := ((Keep.refl h0 []).ext EE).trans KC (fun x hx => Or.inr (by simp only [List.mem_singleton] at hx; rw [hx, g_a40]; exact Nat.le_refl _))
  rcases q42 with ⟨rfl, hj⟩ | ⟨rfl, hall, AL⟩
  · refine o_istore W42 (L' := #[.val (.ref b0), .val (.int (0 : Int32)), .val (.int (1 : Int32)), .val (.ref a40), .val (.int (0 : Int32)), .unset]) own_d15_12 rfl (pc' := 14) rfl ?_
    refine o_iload W42 own_d15_14 (v := (0 : Int32)) rfl (pc' := 16) rfl ?_
    refine o_iloadN W42 own_d15_16 (v := (1 : Int32)) rfl (pc' := 17) rfl ?_
    refine o_icmp_eq W42 own_d15_17 (by decide) (pq := 57) (by decide) (pc' := 20) rfl (fun hc17 => ?_) (fun hc17 => ?_)
    · exact absurd hc17 (by decide)
    · refine o_aloadN W42 own_d15_20 (v := (.ref b0)) rfl rfl (pc' := 21) rfl ?_
      refine o_iloadN W42 own_d15_21 (v := (0 : Int32)) rfl (pc' := 22) rfl ?_
      refine o_iloadN W42 own_d15_22 (v := (1 : Int32)) rfl (pc' := 23) rfl ?_
      have KK0 := KK
      refine o_callSA W42 (rm20_1 l Z a0 hw b0 h42 n0 W42.le cs fm ST_42 k0 hk0 A0_42) (ow hw 87 rfl) (ow hw 88 rfl) (ow hw 73 rfl) (ow hw 89 rfl) (by decide) (argsL := [(.ref b0), (.int (0 : Int32)), (.int (1 : Int32))]) (S := []) (lenOf own_pd11 rfl) rfl rfl rfl (wt := 0) rfl (by decide) (by decide) (by decide) (by decide) (kk' := 2) rfl (nn' := 3) rfl own_d15_23 (pc' := 26) rfl ?_
      intro r43 T43 h43 W43 q43 z43
      obtain ⟨gu, KU, ST_43, AU⟩ := q43
      have KK := KK.trans KU (fun x hx => nomatch hx)
      refine o_astore W43 (L' := #[.val (.ref b0), .val (.int (0 : Int32)), .val (.int (1 : Int32)), .val (.ref a40), .val (.int (0 : Int32)), .val (.ref r43)]) own_d15_26 rfl rfl (pc' := 28) rfl ?_
      refine o_aload W43 own_d15_28 (v := (.ref r43)) rfl rfl (pc' := 30) rfl ?_
      refine o_iload W43 own_d15_30 (v := (0 : Int32)) rfl (pc' := 32) rfl ?_
      refine o_callSI W43 (rm24 l Z a0 hw r43 (0 : Int32) h43 n0 W43.le cs fm ST_43 _ 0 _ _ AU rfl (by decide) rfl rfl) (ow hw 103 rfl) (ow hw 104 rfl) (ow hw 73 rfl) (ow hw 105 rfl) (by decide) (argsL := [(.ref r43), (.int (0 : Int32))]) (S := []) (lenOf own_pd12 rfl) rfl rfl rfl (wt := 0) rfl (by decide) (by decide) (by decide) (by decide) (kk' := 2) rfl (nn' := 3) rfl own_d15_32 (pc' := 35) rfl ?_
      intro r44 T44 h44 W44 q44 z44
      obtain ⟨q44, rfl⟩ := q44
      obtain rfl : r44 = k0 := q44.trans (own_gcv k0 hk0.1 hk0.2)
      refine o_sipush W44 (v := (255 : Int32)) own_d15_35 rfl (pc' := 38) rfl ?_
      have cm1 : (-1 : Int32).toInt = -1 := rfl
      have ci0 : (0 : Int32).toInt = 0 := rfl
      have ci1 : (1 : Int32).toInt = 1 := rfl
      have ci2 : (2 : Int32).toInt = 2 := rfl
      have ci3 : (3 : Int32).toInt = 3 := rfl
      have ci4 : (4 : Int32).toInt = 4 := rfl
      have c255 : (255 : Int32).toInt = 255 := rfl
      refine o_icmp_gt W44 own_d15_38 (by decide) (pq := 54) (by decide) (pc' := 41) rfl (fun hc38 => ?_) (fun hc38 => ?_)
      · refine o_aload W44 own_d15_54 (v := (.ref r43)) rfl rfl (pc' := 56) rfl ?_
        refine o_retA W44 (t := (.array .byte)) rfl rfl rfl rfl own_d15_56 (by decide) (by decide) ?_
        exact ⟨_, rfl, by rw [gu]; exact KK0.1, KK, ST_43, Or.inr AU⟩
      · exfalso; omega
  · refine o_istore W42 (L' := #[.val (.ref b0), .val (.int (0 : Int32)), .val (.int (1 : Int32)), .val (.ref a40), .val (.int (1 : Int32)), .unset]) own_d15_12 rfl (pc' := 14) rfl ?_
    refine o_iload W42 own_d15_14 (v := (1 : Int32)) rfl (pc' := 16) rfl ?_
    refine o_iloadN W42 own_d15_16 (v := (1 : Int32)) rfl (pc' := 17) rfl ?_
    refine o_icmp_eq W42 own_d15_17 (by decide) (pq := 57) (by decide) (pc' := 20) rfl (fun hc17 => ?_) (fun hc17 => ?_)
    · refine o_aloadN W42 own_d15_57 (v := (.ref a40)) rfl rfl (pc' := 58) rfl ?_
      refine o_retA W42 (t := (.array .byte)) rfl rfl rfl rfl own_d15_58 (by decide) (by decide) ?_
      exact ⟨_, rfl, Nat.le_of_eq g_a40.symm, KK, ST_42, Or.inl ⟨hall, AL⟩⟩
    · exact absurd hc17 (by decide)
theorem own_ef17_1L (m : MethodId) (z0 : Addr) (z1 : Int32) : entryFrame m #[(.ref z0), (.int z1)] 2 = mkF m 0 #[.val (.ref z0), .val (.int z1)] [] := by first | (simp [entryFrame, mkF, argsToLocals, Value.category]; done) | rfl
theorem own_d17_0 : decode jdk_52_method_15_code 0 = .ok (.iload_n 1, 1) := by decide +kernel
theorem own_d17_1 : decode jdk_52_method_15_code 1 = .ok (.aload_n 0, 1) := by decide +kernel
theorem own_d17_2 : decode jdk_52_method_15_code 2 = .ok (.arraylength, 1) := by decide +kernel
theorem own_d17_3 : decode jdk_52_method_15_code 3 = .ok (.isub, 1) := by decide +kernel
theorem own_d17_4 : decode jdk_52_method_15_code 4 = .ok (.bipush 31, 2) := by decide +kernel
theorem own_d17_6 : decode jdk_52_method_15_code 6 = .ok (.iushr, 1) := by decide +kernel
theorem own_d17_7 : decode jdk_52_method_15_code 7 = .ok (.i2b, 1) := by decide +kernel
theorem own_d17_8 : decode jdk_52_method_15_code 8 = .ok (.ireturn, 1) := by decide +kernel
set_option maxRecDepth 65536 in
set_option maxHeartbeats 4000000 in
theorem rm17_1L (l : Launch) (Z : State) (a0 : Array Value) (hw : ∀ d ∈ tables_1, d.before a0 Z = true) (b1 : Addr) (h0 : Heap) (n0 : Nat) (Z0 : n0 ≤ h0.size) (k0 : Int32) (A1 : OA Z h0 b1 .byte [own_b k0]) :
    OCon l Z (⟨"java/lang/StringUTF16", "coderFromArrayLen", "([BI)B"⟩ : MethodName) jdk_52_method_15_code 2 (some .byte) [] ({ frames := 0, cells := 0, slots := 0, locals := 0 } : Room) #[(.ref b1), (.int (1 : Int32))] h0 n0 (QI fun r h' => r = 0 ∧ h0 = h') := by
  refine OCon.mk (plainFor_of_name own_pn2) Z0 ?_
  intro p e s m below meth cd s₁ W0
  refine OF.cast (own_ef17_1L m b1 (1 : Int32)) ?_
  refine o_iloadN W0 own_d17_0 (v := (1 : Int32)) rfl (pc' := 1) rfl ?_
  refine o_aloadN W0 own_d17_1 (v := (.ref b1)) rfl rfl (pc' := 2) rfl ?_
  refine o_arraylength W0 A1 own_d17_2 (pc' := 3) rfl ?_
  intro v45 hv45
  obtain rfl : v45 = (1 : Int32) := o_eq (y := (1 : Int32)) hv45
  refine o_isub W0 own_d17_3 (pc' := 4) rfl ?_
  show OF _ _ _ _ _ _ _ s₁ (mkF m 4 #[.val (.ref b1), .val (.int (1 : Int32))] [(.int (0 : Int32))])
  refine o_bipush W0 (v := (31 : Int32)) own_d17_4 rfl (pc' := 6) rfl ?_
  refine o_iushr W0 own_d17_6 (pc' := 7) rfl ?_
  refine o_i2b W0 own_d17_7 (pc' := 8) rfl ?_
  refine o_retN W0 (t := .byte) rfl (by simp) own_d17_8 (by decide) (by decide) ?_
  exact ⟨0, rfl, rfl, rfl⟩
theorem own_ef17_1U (m : MethodId) (z0 : Addr) (z1 : Int32) : entryFrame m #[(.ref z0), (.int z1)] 2 = mkF m 0 #[.val (.ref z0), .val (.int z1)] [] := by first | (simp [entryFrame, mkF, argsToLocals, Value.category]; done) | rfl
set_option maxRecDepth 65536 in
set_option maxHeartbeats 4000000 in
theorem rm17_1U (l : Launch) (Z : State) (a0 : Array Value) (hw : ∀ d ∈ tables_1, d.before a0 Z = true) (b1 : Addr) (h0 : Heap) (n0 : Nat) (Z0 : n0 ≤ h0.size) (k0 : Int32) (A1 : OA Z h0 b1 .byte [own_lo k0, own_hi k0]) :
    OCon l Z (⟨"java/lang/StringUTF16", "coderFromArrayLen", "([BI)B"⟩ : MethodName) jdk_52_method_15_code 2 (some .byte) [] ({ frames := 0, cells := 0, slots := 0, locals := 0 } : Room) #[(.ref b1), (.int (1 : Int32))] h0 n0 (QI fun r h' => r = 1 ∧ h0 = h') := by
  refine OCon.mk (plainFor_of_name own_pn2) Z0 ?_
  intro p e s m below meth cd s₁ W0
  refine OF.cast (own_ef17_1U m b1 (1 : Int32)) ?_
  refine o_iloadN W0 own_d17_0 (v := (1 : Int32)) rfl (pc' := 1) rfl ?_
  refine o_aloadN W0 own_d17_1 (v := (.ref b1)) rfl rfl (pc' := 2) rfl ?_
  refine o_arraylength W0 A1 own_d17_2 (pc' := 3) rfl ?_
  intro v46 hv46
  obtain rfl : v46 = (2 : Int32) := o_eq (y := (2 : Int32)) hv46
  refine o_isub W0 own_d17_3 (pc' := 4) rfl ?_
  show OF _ _ _ _ _ _ _ s₁ (mkF m 4 #[.val (.ref b1), .val (.int (1 : Int32))] [(.int (-1 : Int32))])
  refine o_bipush W0 (v := (31 : Int32)) own_d17_4 rfl (pc' := 6) rfl ?_
  refine o_iushr W0 own_d17_6 (pc' := 7) rfl ?_
  refine o_i2b W0 own_d17_7 (pc' := 8) rfl ?_
  refine o_retN W0 (t := .byte) rfl (by simp) own_d17_8 (by decide) (by decide) ?_
  exact ⟨1, rfl, rfl, rfl⟩
theorem own_ef3_1 (m : MethodId) (z0 : Addr) (z1 : Addr) (z2 : Int32) (z3 : Int32) : entryFrame m #[(.ref z0), (.ref z1), (.int z2), (.int z3), .null] 6 = mkF m 0 #[.val (.ref z0), .val (.ref z1), .val (.int z2), .val (.int z3), .val .null, .unset] [] := by first | (simp [entryFrame, mkF, argsToLocals, Value.category]; done) | rfl
theorem own_d3_0 : decode jdk_42_method_149_code 0 = .ok (.aload_n 0, 1) := by decide +kernel
theorem own_d3_1 : decode jdk_42_method_149_code 1 = .ok (.invokespecial 1, 3) := by decide +kernel
theorem own_d3_4 : decode jdk_42_method_149_code 4 = .ok (.iload_n 3, 1) := by decide +kernel
theorem own_d3_5 : decode jdk_42_method_149_code 5 = .ok (.ifCond .ne 22, 3) := by decide +kernel
theorem own_d3_27 : decode jdk_42_method_149_code 27 = .ok (.getstatic 38, 3) := by decide +kernel
theorem own_d3_30 : decode jdk_42_method_149_code 30 = .ok (.ifCond .eq 28, 3) := by decide +kernel
theorem own_d3_33 : decode jdk_42_method_149_code 33 = .ok (.aload_n 1, 1) := by decide +kernel
theorem own_d3_34 : decode jdk_42_method_149_code 34 = .ok (.iload_n 2, 1) := by decide +kernel
theorem own_d3_35 : decode jdk_42_method_149_code 35 = .ok (.iload_n 3, 1) := by decide +kernel
theorem own_d3_36 : decode jdk_42_method_149_code 36 = .ok (.invokestatic 177, 3) := by decide +kernel
theorem own_d3_39 : decode jdk_42_method_149_code 39 = .ok (.astore 5, 2) := by decide +kernel
theorem own_d3_41 : decode jdk_42_method_149_code 41 = .ok (.aload_n 0, 1) := by decide +kernel
theorem own_d3_42 : decode jdk_42_method_149_code 42 = .ok (.aload 5, 2) := by decide +kernel
theorem own_d3_44 : decode jdk_42_method_149_code 44 = .ok (.iload_n 3, 1) := by decide +kernel
theorem own_d3_45 : decode jdk_42_method_149_code 45 = .ok (.invokestatic 47, 3) := by decide +kernel
theorem own_pd13 : parseMethodDescriptor "([BI)B" = some ⟨[(.array .byte), .int], some .byte⟩ := by decide +kernel
theorem own_d3_48 : decode jdk_42_method_149_code 48 = .ok (.putfield 15, 3) := by decide +kernel
theorem own_d3_51 : decode jdk_42_method_149_code 51 = .ok (.aload_n 0, 1) := by decide +kernel
theorem own_d3_52 : decode jdk_42_method_149_code 52 = .ok (.aload 5, 2) := by decide +kernel
theorem own_d3_54 : decode jdk_42_method_149_code 54 = .ok (.putfield 9, 3) := by decide +kernel
theorem own_d3_57 : decode jdk_42_method_149_code 57 = .ok (.return_, 1) := by decide +kernel
set_option maxRecDepth 65536 in
set_option maxHeartbeats 4000000 in
theorem rm3_1 (l : Launch) (Z : State) (a0 : Array Value) (hw : ∀ d ∈ tables_1, d.before a0 Z = true) (b0 b1 : Addr) (h0 : Heap) (n0 : Nat) (Z0 : n0 ≤ h0.size) (cs : Int32) (fm : Value) (ST : OSt Z h0 cs fm) (hcs : ¬ cs.toInt = 0) (k0 : Int32) (hk0 : 0 ≤ k0.toInt ∧ k0.toInt ≤ 65535) (A1 : OA Z h0 b1 .char [k0]) (E0 : Exa Z h0 b0 "java/lang/String") (Fv : Fld Z h0 b0 "java/lang/String" "value" "[B" .null) (Fc : Fld Z h0 b0 "java/lang/String" "coder" "B" (.int (0 : Int32))) (g0 : n0 ≤ b0) :
    OCon l Z (⟨"java/lang/String", "<init>", "([CIILjava/lang/Void;)V"⟩ : MethodName) jdk_42_method_149_code 6 none [] ({ frames := 4, cells := 2, slots := 3, locals := 57 } : Room) #[(.ref b0), (.ref b1), (.int (0 : Int32)), (.int (1 : Int32)), .null] h0 n0 (QV fun h' => Exa Z h' b0 "java/lang/String" ∧ Keep h0 h' [b0] ∧ OSt Z h' cs fm ∧ ∃ r, Fld Z h' b0 "java/lang/String" "value" "[B" (.ref r) ∧ (((k0.toInt ≤ 255) ∧ Fld Z h' b0 "java/lang/String" "coder" "B" (.int 0) ∧ OA Z h' r .byte [own_b k0]) ∨ (Fld Z h' b0 "java/lang/String" "coder" "B" (.int 1) ∧ OA Z h' r .byte [own_lo k0, own_hi k0]))) := by
  refine OCon.mk (plainFor_of_name own_pn4) Z0 ?_
  intro p e s m below meth cd s₁ W0
  refine OF.cast (own_ef3_1 m b0 b1 (0 : Int32) (1 : Int32)) ?_
  have c_1___Int32_ : (1 : Int32).toInt = 1 := rfl
  refine o_aloadN W0 own_d3_0 (v := (.ref b0)) rfl rfl (pc' := 1) rfl ?_
  refine o_initO W0 (ow hw 16 rfl) (ow hw 17 rfl) (ow hw 18 rfl) rfl (wt := 0) rfl (by decide) (by decide) own_d3_1 (pc' := 4) rfl ?_
  intro T47 W47
  refine o_iloadN W47 own_d3_4 (v := (1 : Int32)) rfl (pc' := 5) rfl ?_
  refine o_if_ne W47 own_d3_5 (by decide) (pq := 27) (by decide) (pc' := 8) rfl (fun hc5 => ?_) (fun hc5 => ?_)
  · refine o_getS W47 (ow hw 46 rfl) ST.1 own_d3_27 (pc' := 30) rfl ?_
    intro T48 W48
    refine o_if_eq W48 own_d3_30 (by decide) (pq := 58) (by decide) (pc' := 33) rfl (fun hc30 => ?_) (fun hc30 => ?_)
    · exact absurd hc30 hcs
    · refine o_aloadN W48 own_d3_33 (v := (.ref b1)) rfl rfl (pc' := 34) rfl ?_
      refine o_iloadN W48 own_d3_34 (v := (0 : Int32)) rfl (pc' := 35) rfl ?_
      refine o_iloadN W48 own_d3_35 (v := (1 : Int32)) rfl (pc' := 36) rfl ?_
      refine o_callSA W48 (rm15_1 l Z a0 hw b1 h0 n0 W48.le cs fm ST k0 hk0 A1) (ow hw 71 rfl) (ow hw 72 rfl) (ow hw 73 rfl) (ow hw 74 rfl) (by decide) (argsL := [(.ref b1), (.int (0 : Int32)), (.int (1 : Int32))]) (S := []) (lenOf own_pd11 rfl) rfl rfl rfl (wt := 0) rfl (by decide) (by decide) (by decide) (by decide) (kk' := 2) rfl (nn' := 3) rfl own_d3_36 (pc' := 39) rfl ?_
      intro r49 T49 h49 W49 q49 z49
      obtain ⟨gr, KB, ST_49, q49⟩ := q49
      have E_49 := Exa.keep E0 KB
      have Fv_49 := Fld.keep Fv KB nin0
      have Fc_49 := Fld.keep Fc KB nin0
      have KI_49 : Keep h0 h49 [b0] := (Keep.refl h0 [b0]).trans KB (fun x hx => nomatch hx)
      have ne_r49_b0 : r49 ≠ b0 := (Nat.ne_of_lt (Nat.lt_of_lt_of_le E0.lt gr)).symm
      rcases q49 with ⟨hall, AR⟩ | AR
      · refine o_astore W49 (L' := #[.val (.ref b0), .val (.ref b1), .val (.int (0 : Int32)), .val (.int (1 : Int32)), .val .null, .val (.ref r49)]) own_d3_39 rfl rfl (pc' := 41) rfl ?_
        refine o_aloadN W49 own_d3_41 (v := (.ref b0)) rfl rfl (pc' := 42) rfl ?_
        refine o_aload W49 own_d3_42 (v := (.ref r49)) rfl rfl (pc' := 44) rfl ?_
        refine o_iloadN W49 own_d3_44 (v := (1 : Int32)) rfl (pc' := 45) rfl ?_
        refine o_callSI W49 (rm17_1L l Z a0 hw r49 h49 n0 W49.le k0 AR) (ow hw 78 rfl) (ow hw 79 rfl) (ow hw 73 rfl) (ow hw 80 rfl) (by decide) (argsL := [(.ref r49), (.int (1 : Int32))]) (S := [(.ref b0)]) (lenOf own_pd13 rfl) rfl rfl rfl (wt := 1) rfl (by decide) (by decide) (by decide) (by decide) (kk' := 2) rfl (nn' := 3) rfl own_d3_45 (pc' := 48) rfl ?_
        intro r50 T50 h50 W50 q50 z50
        obtain ⟨q50, rfl⟩ := q50
        obtain rfl : r50 = (0 : Int32) := q50
        refine o_putF W50 (ow hw 26 rfl) Fc_49 E_49 (Or.inr ⟨(ow hw 22 rfl), rfl, rfl⟩) (ow hw 7 rfl) (ty := .byte) (by decide) (v' := (.int (nar .byte (0 : Int32)))) rfl (fits_nar_byte _) g0 own_d3_48 (pc' := 51) rfl ?_
        intro T51 h51 W51 R51
        have F_value_b0_51 := Fld.other R51 Fv_49 (Or.inr (slot_ne (Or.inr (ow hw 21 rfl)) (Or.inr (ow hw 22 rfl)) (by decide) (t := (.array .byte)) (t' := .byte) (by decide) (by decide)))
        have F_coder_b0_51 := Fc_49.same R51
        have X_b0_51 := Exa.wr R51 E_49
        have A_r49_51 := AR.keep1 (Keep.of_wr R51) ne_r49_b0
        have ST_51 := ST_49.wr R51
        have K_51 := KI_49.wr R51 (Or.inl (by simp))
        refine o_aloadN W51 own_d3_51 (v := (.ref b0)) rfl rfl (pc' := 52) rfl ?_
        refine o_aload W51 own_d3_52 (v := (.ref r49)) rfl rfl (pc' := 54) rfl ?_
        refine o_putF W51 (ow hw 25 rfl) F_value_b0_51 X_b0_51 (Or.inr ⟨(ow hw 21 rfl), rfl, rfl⟩) (ow hw 7 rfl) (ty := (.array .byte)) (by decide) (v' := (.ref r49)) rfl rfl g0 own_d3_54 (pc' := 57) rfl ?_
        intro T52 h52 W52 R52
        have F_value_b0_52 := F_value_b0_51.same R52
        have F_coder_b0_52 := Fld.other R52 F_coder_b0_51 (Or.inr (slot_ne (Or.inr (ow hw 22 rfl)) (Or.inr (ow hw 21 rfl)) (by decide) (t := .byte) (t' := (.array .byte)) (by decide) (by decide)))
        have X_b0_52 := Exa.wr R52 X_b0_51
        have A_r49_52 := A_r49_51.keep1 (Keep.of_wr R52) ne_r49_b0
        have ST_52 := ST_51.wr R52
        have K_52 := K_51.wr R52 (Or.inl (by simp))
        refine o_retV W52 rfl own_d3_57 (by decide) (by decide) ?_
        exact ⟨rfl, X_b0_52, K_52, ST_52, r49, F_value_b0_52, Or.inl ⟨hall, F_coder_b0_52, A_r49_52⟩⟩
      · refine o_astore W49 (L' := #[.val (.ref b0), .val (.ref b1), .val (.int (0 : Int32)), .val (.int (1 : Int32)), .val .null, .val (.ref r49)]) own_d3_39 rfl rfl (pc' := 41) rfl ?_
        refine o_aloadN W49 own_d3_41 (v := (.ref b0)) rfl rfl (pc' := 42) rfl ?_
        refine o_aload W49 own_d3_42 (v := (.ref r49)) rfl rfl (pc' := 44) rfl ?_
        refine o_iloadN W49 own_d3_44 (v := (1 : Int32)) rfl (pc' := 45) rfl ?_
        refine o_callSI W49 (rm17_1U l Z a0 hw r49 h49 n0 W49.le k0 AR) (ow hw 78 rfl) (ow hw 79 rfl) (ow hw 73 rfl) (ow hw 80 rfl) (by decide) (argsL := [(.ref r49), (.int (1 : Int32))]) (S := [(.ref b0)]) (lenOf own_pd13 rfl) rfl rfl rfl (wt := 1) rfl (by decide) (by decide) (by decide) (by decide) (kk' := 2) rfl (nn' := 3) rfl own_d3_45 (pc' := 48) rfl ?_
        intro r53 T53 h53 W53 q53 z53
        obtain ⟨q53, rfl⟩ := q53
        obtain rfl : r53 = (1 : Int32) := q53
        refine o_putF W53 (ow hw 26 rfl) Fc_49 E_49 (Or.inr ⟨(ow hw 22 rfl), rfl, rfl⟩) (ow hw 7 rfl) (ty := .byte) (by decide) (v' := (.int (nar .byte (1 : Int32)))) rfl (fits_nar_byte _) g0 own_d3_48 (pc' := 51) rfl ?_
        intro T54 h54 W54 R54
        have F_value_b0_54 := Fld.other R54 Fv_49 (Or.inr (slot_ne (Or.inr (ow hw 21 rfl)) (Or.inr (ow hw 22 rfl)) (by decide) (t := (.array .byte)) (t' := .byte) (by decide) (by decide)))
        have F_coder_b0_54 := Fc_49.same R54
        have X_b0_54 := Exa.wr R54 E_49
        have A_r49_54 := AR.keep1 (Keep.of_wr R54) ne_r49_b0
        have ST_54 := ST_49.wr R54
        have K_54 := KI_49.wr R54 (Or.inl (by simp))
        refine o_aloadN W54 own_d3_51 (v := (.ref b0)) rfl rfl (pc' := 52) rfl ?_
        refine o_aload W54 own_d3_52 (v := (.ref r49)) rfl rfl (pc' := 54) rfl ?_
        refine o_putF W54 (ow hw 25 rfl) F_value_b0_54 X_b0_54 (Or.inr ⟨(ow hw 21 rfl), rfl, rfl⟩) (ow hw 7 rfl) (ty := (.array .byte)) (by decide) (v' := (.ref r49)) rfl rfl g0 own_d3_54 (pc' := 57) rfl ?_
        intro T55 h55 W55 R55
        have F_value_b0_55 := F_value_b0_54.same R55
        have F_coder_b0_55 := Fld.other R55 F_coder_b0_54 (Or.inr (slot_ne (Or.inr (ow hw 22 rfl)) (Or.inr (ow hw 21 rfl)) (by decide) (t := .byte) (t' := (.array .byte)) (by decide) (by decide)))
        have X_b0_55 := Exa.wr R55 X_b0_54
        have A_r49_55 := A_r49_54.keep1 (Keep.of_wr R55) ne_r49_b0
        have ST_55 := ST_54.wr R55
        have K_55 := K_54.wr R55 (Or.inl (by simp))
        refine o_retV W55 rfl own_d3_57 (by decide) (by decide) ?_
        exact ⟨rfl, X_b0_55, K_55, ST_55, r49, F_value_b0_55, Or.inr ⟨F_coder_b0_55, A_r49_55⟩⟩
  · exact absurd hc5 (by decide)
theorem own_ef2_1 (m : MethodId) (z0 : Addr) (z1 : Addr) : entryFrame m #[(.ref z0), (.ref z1)] 2 = mkF m 0 #[.val (.ref z0), .val (.ref z1)] [] := by first | (simp [entryFrame, mkF, argsToLocals, Value.category]; done) | rfl
theorem own_d2_0 : decode jdk_42_method_3_code 0 = .ok (.aload_n 0, 1) := by decide +kernel
theorem own_d2_1 : decode jdk_42_method_3_code 1 = .ok (.aload_n 1, 1) := by decide +kernel
theorem own_d2_2 : decode jdk_42_method_3_code 2 = .ok (.iconst 0, 1) := by decide +kernel
theorem own_d2_3 : decode jdk_42_method_3_code 3 = .ok (.aload_n 1, 1) := by decide +kernel
theorem own_d2_4 : decode jdk_42_method_3_code 4 = .ok (.arraylength, 1) := by decide +kernel
theorem own_d2_5 : decode jdk_42_method_3_code 5 = .ok (.aconst_null, 1) := by decide +kernel
theorem own_d2_6 : decode jdk_42_method_3_code 6 = .ok (.invokespecial 27, 3) := by decide +kernel
theorem own_pd14 : parseMethodDescriptor "([CIILjava/lang/Void;)V" = some ⟨[(.array .char), .int, .int, (.object "java/lang/Void")], none⟩ := by decide +kernel
theorem own_d2_9 : decode jdk_42_method_3_code 9 = .ok (.return_, 1) := by decide +kernel
set_option maxRecDepth 65536 in
set_option maxHeartbeats 4000000 in
theorem rm2_1 (l : Launch) (Z : State) (a0 : Array Value) (hw : ∀ d ∈ tables_1, d.before a0 Z = true) (b0 : Addr) (b1 : Addr) (h0 : Heap) (n0 : Nat) (Z0 : n0 ≤ h0.size) (cs : Int32) (fm : Value) (ST : OSt Z h0 cs fm) (hcs : ¬ cs.toInt = 0) (k0 : Int32) (hk0 : 0 ≤ k0.toInt ∧ k0.toInt ≤ 65535) (A1 : OA Z h0 b1 .char [k0]) (E0 : Exa Z h0 b0 "java/lang/String") (Fv : Fld Z h0 b0 "java/lang/String" "value" "[B" .null) (Fc : Fld Z h0 b0 "java/lang/String" "coder" "B" (.int (0 : Int32))) (g0 : n0 ≤ b0) :
    OCon l Z (⟨"java/lang/String", "<init>", "([C)V"⟩ : MethodName) jdk_42_method_3_code 2 none [] ({ frames := 5, cells := 2, slots := 3, locals := 74 } : Room) #[(.ref b0), (.ref b1)] h0 n0 (QV fun h' => Exa Z h' b0 "java/lang/String" ∧ Keep h0 h' [b0] ∧ OSt Z h' cs fm ∧ ∃ r, Fld Z h' b0 "java/lang/String" "value" "[B" (.ref r) ∧ (((k0.toInt ≤ 255) ∧ Fld Z h' b0 "java/lang/String" "coder" "B" (.int 0) ∧ OA Z h' r .byte [own_b k0]) ∨ (Fld Z h' b0 "java/lang/String" "coder" "B" (.int 1) ∧ OA Z h' r .byte [own_lo k0, own_hi k0]))) := by
  refine OCon.mk (plainFor_of_name own_pn4) Z0 ?_
  intro p e s m below meth cd s₁ W0
  refine OF.cast (own_ef2_1 m b0 b1) ?_
  refine o_aloadN W0 own_d2_0 (v := (.ref b0)) rfl rfl (pc' := 1) rfl ?_
  refine o_aloadN W0 own_d2_1 (v := (.ref b1)) rfl rfl (pc' := 2) rfl ?_
  refine o_iconst W0 (v := (0 : Int32)) own_d2_2 rfl (pc' := 3) rfl ?_
  refine o_aloadN W0 own_d2_3 (v := (.ref b1)) rfl rfl (pc' := 4) rfl ?_
  refine o_arraylength W0 A1 own_d2_4 (pc' := 5) rfl ?_
  intro v56 hv56
  obtain rfl : v56 = (1 : Int32) := o_eq (y := (1 : Int32)) hv56
  refine o_aconstNull W0 own_d2_5 (pc' := 6) rfl ?_
  refine o_callC W0 (rm3_1 l Z a0 hw b0 b1 h0 n0 W0.le cs fm ST hcs k0 hk0 A1 E0 Fv Fc g0) rfl (ow hw 12 rfl) (ow hw 13 rfl) (ow hw 8 rfl) (ow hw 15 rfl) (by decide) (argsL := [(.ref b1), (.int (0 : Int32)), (.int (1 : Int32)), .null]) (S := []) (lenOf own_pd14 rfl) rfl rfl rfl (wt := 0) rfl (by decide) (by decide) (by decide) (by decide) (kk' := 2) rfl (nn' := 3) rfl own_d2_6 (pc' := 9) rfl ?_
  intro T57 h57 W57 q57 z57
  refine o_retV W57 rfl own_d2_9 (by decide) (by decide) ?_
  exact ⟨rfl, q57⟩
theorem own_ef9_1L (m : MethodId) (z0 : Addr) : entryFrame m #[(.ref z0)] 1 = mkF m 0 #[.val (.ref z0)] [] := by first | (simp [entryFrame, mkF, argsToLocals, Value.category]; done) | rfl
set_option maxRecDepth 65536 in
set_option maxHeartbeats 4000000 in
theorem rm9_1L (l : Launch) (Z : State) (a0 : Array Value) (hw : ∀ d ∈ tables_1, d.before a0 Z = true) (b0 : Addr) (h0 : Heap) (n0 : Nat) (Z0 : n0 ≤ h0.size) (cs : Int32) (fm : Value) (ST : OSt Z h0 cs fm) (hcs : ¬ cs.toInt = 0) (k0 : Int32) (b1 : Addr) (E0 : Exa Z h0 b0 "java/lang/String") (Fv : Fld Z h0 b0 "java/lang/String" "value" "[B" (.ref b1)) (Fc : Fld Z h0 b0 "java/lang/String" "coder" "B" (.int (0 : Int32))) (A1 : OA Z h0 b1 .byte [own_b k0]) :
    OCon l Z (⟨"java/lang/String", "length", "()I"⟩ : MethodName) jdk_42_method_54_code 1 (some .int) [] ({ frames := 1, cells := 0, slots := 0, locals := 13 } : Room) #[(.ref b0)] h0 n0 (QI fun r h' => r = (1 : Int32) ∧ h0 = h') := by
  refine OCon.mk (plainFor_of_name own_pn4) Z0 ?_
  intro p e s m below meth cd s₁ W0
  refine OF.cast (own_ef9_1L m b0) ?_
  refine o_aloadN W0 own_d9_0 (v := (.ref b0)) rfl rfl (pc' := 1) rfl ?_
  refine o_getF W0 (ow hw 25 rfl) Fv own_d9_1 (pc' := 4) rfl ?_
  intro T58 W58
  refine o_arraylength W58 A1 own_d9_4 (pc' := 5) rfl ?_
  intro v59 hv59
  obtain rfl : v59 = (1 : Int32) := o_eq (y := (1 : Int32)) hv59
  refine o_aloadN W58 own_d9_5 (v := (.ref b0)) rfl rfl (pc' := 6) rfl ?_
  refine o_callV W58 E0 (rm10_L l Z a0 hw b0 h0 n0 W58.le cs fm ST hcs Fc) (ow hw 52 rfl) (ow hw 53 rfl) (notFace_of_selects (args := #[]) (mvT W58.hZ (ow hw 55 rfl))) (ow hw 55 rfl) (ow hw 54 rfl) (ow hw 8 rfl) (ow hw 56 rfl) (by decide) (argsL := []) (S := [(.int (1 : Int32))]) (lenOf own_pd1 rfl) rfl rfl rfl (wt := 1) rfl (by decide) (by decide) (by decide) (by decide) (kk' := 0) rfl (nn' := 0) rfl own_d9_6 (pc' := 9) rfl ?_
  intro vv T60 h60 W60 q60 z60
  obtain ⟨r60, rfl, q60⟩ := q60
  show OF _ _ _ _ _ _ _ T60 (mkF m 9 #[.val (.ref b0)] [(.int r60), (.int (1 : Int32))])
  obtain ⟨q60, rfl⟩ := q60
  obtain rfl : r60 = (0 : Int32) := q60
  refine o_ishr W60 own_d9_9 (pc' := 10) rfl ?_
  show OF _ _ _ _ _ _ _ T60 (mkF m 10 #[.val (.ref b0)] [(.int (1 : Int32))])
  refine o_retI W60 rfl own_d9_10 (by decide) (by decide) ?_
  exact ⟨_, rfl, rfl, rfl⟩
theorem own_ef19_1 (m : MethodId) (z0 : Addr) (z1 : Int32) (z2 : Int32) (z3 : Int32) : entryFrame m #[(.ref z0), (.int z1), (.int z2), (.int z3)] 6 = mkF m 0 #[.val (.ref z0), .val (.int z1), .val (.int z2), .val (.int z3), .unset, .unset] [] := by first | (simp [entryFrame, mkF, argsToLocals, Value.category]; done) | rfl
theorem own_d19_13 : decode jdk_43_method_23_code 13 = .ok (.aload_n 0, 1) := by decide +kernel
theorem own_d19_14 : decode jdk_43_method_23_code 14 = .ok (.iload 5, 2) := by decide +kernel
theorem own_d19_16 : decode jdk_43_method_23_code 16 = .ok (.baload, 1) := by decide +kernel
theorem own_d19_17 : decode jdk_43_method_23_code 17 = .ok (.iload 4, 2) := by decide +kernel
theorem own_d19_19 : decode jdk_43_method_23_code 19 = .ok (.if_icmp .ne 6, 3) := by decide +kernel
theorem own_d19_25 : decode jdk_43_method_23_code 25 = .ok (.iinc 5 1, 3) := by decide +kernel
theorem own_d19_28 : decode jdk_43_method_23_code 28 = .ok (.goto (-21), 3) := by decide +kernel
theorem own_d19_22 : decode jdk_43_method_23_code 22 = .ok (.iload 5, 2) := by decide +kernel
theorem own_d19_24 : decode jdk_43_method_23_code 24 = .ok (.ireturn, 1) := by decide +kernel
set_option maxRecDepth 65536 in
set_option maxHeartbeats 4000000 in
theorem rm19_1 (l : Launch) (Z : State) (a0 : Array Value) (hw : ∀ d ∈ tables_1, d.before a0 Z = true) (b1 : Addr) (y1 : Int32) (h0 : Heap) (n0 : Nat) (Z0 : n0 ≤ h0.size) (hy : 0 ≤ y1.toInt ∧ y1.toInt < 128) (k0 : Int32) (hk0 : 0 ≤ k0.toInt ∧ k0.toInt ≤ 65535) (hall : k0.toInt ≤ 255) (A1 : OA Z h0 b1 .byte [own_b k0]) :
    OCon l Z (⟨"java/lang/StringLatin1", "indexOfChar", "([BIII)I"⟩ : MethodName) jdk_43_method_23_code 6 (some .int) [] ({ frames := 0, cells := 0, slots := 0, locals := 0 } : Room) #[(.ref b1), (.int y1), (.int (0 : Int32)), (.int (1 : Int32))] h0 n0 (QI fun r h' => ((0 ≤ r.toInt ∧ (k0.toInt = y1.toInt)) ∨ (r.toInt < 0 ∧ ¬ (k0.toInt = y1.toInt))) ∧ h0 = h') := by
  refine OCon.mk (plainFor_of_name own_pn1) Z0 ?_
  intro p e s m below meth cd s₁ W0
  refine OF.cast (own_ef19_1 m b1 y1 (0 : Int32) (1 : Int32)) ?_
  have cm1 : (-1 : Int32).toInt = -1 := rfl
  have ci0 : (0 : Int32).toInt = 0 := rfl
  have ci1 : (1 : Int32).toInt = 1 := rfl
  have ci2 : (2 : Int32).toInt = 2 := rfl
  have ci3 : (3 : Int32).toInt = 3 := rfl
  have ci4 : (4 : Int32).toInt = 4 := rfl
  refine o_iloadN W0 own_d19_0 (v := y1) rfl (pc' := 1) rfl ?_
  refine o_i2b W0 own_d19_1 (pc' := 2) rfl ?_
  refine o_istoreG W0 (Lf := fun v61 => #[.val (.ref b1), .val (.int y1), .val (.int (0 : Int32)), .val (.int (1 : Int32)), .val (.int v61), .unset]) own_d19_2 rfl (pc' := 4) rfl ?_
  intro v61 hv61
  have hb0 := own_bcmp k0 y1 hk0.1 (by omega) hy.1 hy.2
  rw [← hv61] at hb0
  refine o_iloadN W0 own_d19_4 (v := (0 : Int32)) rfl (pc' := 5) rfl ?_
  refine o_istore W0 (L' := #[.val (.ref b1), .val (.int y1), .val (.int (0 : Int32)), .val (.int (1 : Int32)), .val (.int v61), .val (.int (0 : Int32))]) own_d19_5 rfl (pc' := 7) rfl ?_
  refine o_iload W0 own_d19_7 (v := (0 : Int32)) rfl (pc' := 9) rfl ?_
  refine o_iloadN W0 own_d19_9 (v := (1 : Int32)) rfl (pc' := 10) rfl ?_
  refine o_icmp_ge W0 own_d19_10 (by decide) (pq := 31) (by decide) (pc' := 13) rfl (fun hc10 => ?_) (fun hc10 => ?_)
  · exact absurd hc10 (by decide)
  · refine o_aloadN W0 own_d19_13 (v := (.ref b1)) rfl rfl (pc' := 14) rfl ?_
    refine o_iload W0 own_d19_14 (v := (0 : Int32)) rfl (pc' := 16) rfl ?_
    refine o_baload W0 A1 own_d19_16 (pc' := 17) rfl (i := 0) (v := own_b k0) rfl rfl ?_
    refine o_iload W0 own_d19_17 (v := v61) rfl (pc' := 19) rfl ?_
    refine o_icmp_ne W0 own_d19_19 (by decide) (pq := 25) (by decide) (pc' := 22) rfl (fun hc19 => ?_) (fun hc19 => ?_)
    · refine o_iinc W0 (x := (0 : Int32)) (L' := #[.val (.ref b1), .val (.int y1), .val (.int (0 : Int32)), .val (.int (1 : Int32)), .val (.int v61), .val (.int ((0 : Int32) + (1 : Int32)))]) own_d19_25 rfl rfl (pc' := 28) rfl ?_
      show OF _ _ _ _ _ _ _ s₁ (mkF m 28 #[.val (.ref b1), .val (.int y1), .val (.int (0 : Int32)), .val (.int (1 : Int32)), .val (.int v61), .val (.int (1 : Int32))] [])
      refine o_goto W0 own_d19_28 (by decide) (pq := 7) (by decide) ?_
      refine o_iload W0 own_d19_7 (v := (1 : Int32)) rfl (pc' := 9) rfl ?_
      refine o_iloadN W0 own_d19_9 (v := (1 : Int32)) rfl (pc' := 10) rfl ?_
      refine o_icmp_ge W0 own_d19_10 (by decide) (pq := 31) (by decide) (pc' := 13) rfl (fun hc10 => ?_) (fun hc10 => ?_)
      · refine o_iconst W0 (v := (-1 : Int32)) own_d19_31 rfl (pc' := 32) rfl ?_
        refine o_retI W0 rfl own_d19_32 (by decide) (by decide) ?_
        exact ⟨_, rfl, by omega, rfl⟩
      · exact absurd hc10 (by decide)
    · refine o_iload W0 own_d19_22 (v := (0 : Int32)) rfl (pc' := 24) rfl ?_
      refine o_retI W0 rfl own_d19_24 (by decide) (by decide) ?_
      exact ⟨_, rfl, by omega, rfl⟩
theorem own_ef11_1 (m : MethodId) (z0 : Addr) (z1 : Int32) (z2 : Int32) (z3 : Int32) : entryFrame m #[(.ref z0), (.int z1), (.int z2), (.int z3)] 4 = mkF m 0 #[.val (.ref z0), .val (.int z1), .val (.int z2), .val (.int z3)] [] := by first | (simp [entryFrame, mkF, argsToLocals, Value.category]; done) | rfl
theorem own_d11_29 : decode jdk_43_method_22_code 29 = .ok (.aload_n 0, 1) := by decide +kernel
theorem own_d11_30 : decode jdk_43_method_22_code 30 = .ok (.iload_n 1, 1) := by decide +kernel
theorem own_d11_31 : decode jdk_43_method_22_code 31 = .ok (.iload_n 2, 1) := by decide +kernel
theorem own_d11_32 : decode jdk_43_method_22_code 32 = .ok (.iload_n 3, 1) := by decide +kernel
theorem own_d11_33 : decode jdk_43_method_22_code 33 = .ok (.invokestatic 95, 3) := by decide +kernel
theorem own_d11_36 : decode jdk_43_method_22_code 36 = .ok (.ireturn, 1) := by decide +kernel
set_option maxRecDepth 65536 in
set_option maxHeartbeats 4000000 in
theorem rm11_1 (l : Launch) (Z : State) (a0 : Array Value) (hw : ∀ d ∈ tables_1, d.before a0 Z = true) (b1 : Addr) (y1 : Int32) (h0 : Heap) (n0 : Nat) (Z0 : n0 ≤ h0.size) (hy : 0 ≤ y1.toInt ∧ y1.toInt < 128) (k0 : Int32) (hk0 : 0 ≤ k0.toInt ∧ k0.toInt ≤ 65535) (hall : k0.toInt ≤ 255) (A1 : OA Z h0 b1 .byte [own_b k0]) :
    OCon l Z (⟨"java/lang/StringLatin1", "indexOf", "([BIII)I"⟩ : MethodName) jdk_43_method_22_code 4 (some .int) [] ({ frames := 1, cells := 0, slots := 0, locals := 17 } : Room) #[(.ref b1), (.int y1), (.int (0 : Int32)), (.int (1 : Int32))] h0 n0 (QI fun r h' => ((0 ≤ r.toInt ∧ (k0.toInt = y1.toInt)) ∨ (r.toInt < 0 ∧ ¬ (k0.toInt = y1.toInt))) ∧ h0 = h') := by
  refine OCon.mk (plainFor_of_name own_pn1) Z0 ?_
  intro p e s m below meth cd s₁ W0
  refine OF.cast (own_ef11_1 m b1 y1 (0 : Int32) (1 : Int32)) ?_
  have cm1 : (-1 : Int32).toInt = -1 := rfl
  have ci0 : (0 : Int32).toInt = 0 := rfl
  have ci1 : (1 : Int32).toInt = 1 := rfl
  have ci2 : (2 : Int32).toInt = 2 := rfl
  have ci3 : (3 : Int32).toInt = 3 := rfl
  have ci4 : (4 : Int32).toInt = 4 := rfl
  refine o_iloadN W0 own_d11_0 (v := y1) rfl (pc' := 1) rfl ?_
  refine o_callSI W0 (rm12 l Z a0 hw y1 h0 n0 W0.le (by omega)) (ow hw 61 rfl) (ow hw 62 rfl) (ow hw 59 rfl) (ow hw 63 rfl) (by decide) (argsL := [(.int y1)]) (S := []) (lenOf own_pd2 rfl) rfl rfl rfl (wt := 0) rfl (by decide) (by decide) (by decide) (by decide) (kk' := 0) rfl (nn' := 0) rfl own_d11_1 (pc' := 4) rfl ?_
  intro r62 T62 h62 W62 q62 z62
  obtain ⟨q62, rfl⟩ := q62
  obtain rfl : r62 = 1 := q62
  refine o_if_ne W62 own_d11_4 (by decide) (pq := 9) (by decide) (pc' := 7) rfl (fun hc4 => ?_) (fun hc4 => ?_)
  · refine o_iloadN W62 own_d11_9 (v := (0 : Int32)) rfl (pc' := 10) rfl ?_
    refine o_iconst W62 (v := (0 : Int32)) own_d11_10 rfl (pc' := 11) rfl ?_
    refine o_callSI W62 (rm13 l Z a0 hw (0 : Int32) (0 : Int32) h0 n0 W62.le) (ow hw 64 rfl) (ow hw 65 rfl) (ow hw 66 rfl) (ow hw 67 rfl) (by decide) (argsL := [(.int (0 : Int32)), (.int (0 : Int32))]) (S := []) (lenOf own_pd3 rfl) rfl rfl rfl (wt := 0) rfl (by decide) (by decide) (by decide) (by decide) (kk' := 0) rfl (nn' := 0) rfl own_d11_11 (pc' := 14) rfl ?_
    intro r63 T63 h63 W63 q63 z63
    obtain ⟨q63, rfl⟩ := q63
    obtain rfl : r63 = (0 : Int32) := by
      rcases q63 with ⟨_, q⟩ | ⟨_, q⟩ <;> exact q
    refine o_istoreN W63 (L' := #[.val (.ref b1), .val (.int y1), .val (.int (0 : Int32)), .val (.int (1 : Int32))]) own_d11_14 rfl (pc' := 15) rfl ?_
    refine o_iloadN W63 own_d11_15 (v := (1 : Int32)) rfl (pc' := 16) rfl ?_
    refine o_aloadN W63 own_d11_16 (v := (.ref b1)) rfl rfl (pc' := 17) rfl ?_
    refine o_arraylength W63 A1 own_d11_17 (pc' := 18) rfl ?_
    intro v64 hv64
    obtain rfl : v64 = (1 : Int32) := o_eq (y := (1 : Int32)) hv64
    refine o_callSI W63 (rm14 l Z a0 hw (1 : Int32) (1 : Int32) h0 n0 W63.le) (ow hw 68 rfl) (ow hw 69 rfl) (ow hw 66 rfl) (ow hw 70 rfl) (by decide) (argsL := [(.int (1 : Int32)), (.int (1 : Int32))]) (S := []) (lenOf own_pd3 rfl) rfl rfl rfl (wt := 0) rfl (by decide) (by decide) (by decide) (by decide) (kk' := 0) rfl (nn' := 0) rfl own_d11_18 (pc' := 21) rfl ?_
    intro r65 T65 h65 W65 q65 z65
    obtain ⟨q65, rfl⟩ := q65
    obtain rfl : r65 = (1 : Int32) := by
      rcases q65 with ⟨_, q⟩ | ⟨_, q⟩ <;> exact q
    refine o_istoreN W65 (L' := #[.val (.ref b1), .val (.int y1), .val (.int (0 : Int32)), .val (.int (1 : Int32))]) own_d11_21 rfl (pc' := 22) rfl ?_
    refine o_iloadN W65 own_d11_22 (v := (0 : Int32)) rfl (pc' := 23) rfl ?_
    refine o_iloadN W65 own_d11_23 (v := (1 : Int32)) rfl (pc' := 24) rfl ?_
    refine o_icmp_lt W65 own_d11_24 (by decide) (pq := 29) (by decide) (pc' := 27) rfl (fun hc24 => ?_) (fun hc24 => ?_)
    · refine o_aloadN W65 own_d11_29 (v := (.ref b1)) rfl rfl (pc' := 30) rfl ?_
      refine o_iloadN W65 own_d11_30 (v := y1) rfl (pc' := 31) rfl ?_
      refine o_iloadN W65 own_d11_31 (v := (0 : Int32)) rfl (pc' := 32) rfl ?_
      refine o_iloadN W65 own_d11_32 (v := (1 : Int32)) rfl (pc' := 33) rfl ?_
      refine o_callSI W65 (rm19_1 l Z a0 hw b1 y1 h0 n0 W65.le hy k0 hk0 hall A1) (ow hw 84 rfl) (ow hw 85 rfl) (ow hw 59 rfl) (ow hw 86 rfl) (by decide) (argsL := [(.ref b1), (.int y1), (.int (0 : Int32)), (.int (1 : Int32))]) (S := []) (lenOf own_pd6 rfl) rfl rfl rfl (wt := 0) rfl (by decide) (by decide) (by decide) (by decide) (kk' := 0) rfl (nn' := 0) rfl own_d11_33 (pc' := 36) rfl ?_
      intro r66 T66 h66 W66 q66 z66
      obtain ⟨q66, rfl⟩ := q66
      refine o_retI W66 rfl own_d11_36 (by decide) (by decide) ?_
      exact ⟨_, rfl, q66, rfl⟩
    · exact absurd hc24 (by decide)
  · exact absurd hc4 (by decide)
theorem own_ef7_1L (m : MethodId) (z0 : Addr) (z1 : Int32) (z2 : Int32) : entryFrame m #[(.ref z0), (.int z1), (.int z2)] 3 = mkF m 0 #[.val (.ref z0), .val (.int z1), .val (.int z2)] [] := by first | (simp [entryFrame, mkF, argsToLocals, Value.category]; done) | rfl
set_option maxRecDepth 65536 in
set_option maxHeartbeats 4000000 in
theorem rm7_1L (l : Launch) (Z : State) (a0 : Array Value) (hw : ∀ d ∈ tables_1, d.before a0 Z = true) (b0 : Addr) (y1 : Int32) (h0 : Heap) (n0 : Nat) (Z0 : n0 ≤ h0.size) (hy : 0 ≤ y1.toInt ∧ y1.toInt < 128) (cs : Int32) (fm : Value) (ST : OSt Z h0 cs fm) (hcs : ¬ cs.toInt = 0) (hfm : fm.isRef = true) (k0 : Int32) (hk0 : 0 ≤ k0.toInt ∧ k0.toInt ≤ 65535) (hall : k0.toInt ≤ 255) (b1 : Addr) (E0 : Exa Z h0 b0 "java/lang/String") (Fv : Fld Z h0 b0 "java/lang/String" "value" "[B" (.ref b1)) (Fc : Fld Z h0 b0 "java/lang/String" "coder" "B" (.int (0 : Int32))) (A1 : OA Z h0 b1 .byte [own_b k0]) :
    OCon l Z (⟨"java/lang/String", "indexOf", "(II)I"⟩ : MethodName) jdk_42_method_80_code 3 (some .int) [] ({ frames := 5, cells := 0, slots := 0, locals := 73 } : Room) #[(.ref b0), (.int y1), (.int (0 : Int32))] h0 n0 (QI fun r h' => ((0 ≤ r.toInt ∧ (k0.toInt = y1.toInt)) ∨ (r.toInt < 0 ∧ ¬ (k0.toInt = y1.toInt))) ∧ h0 = h') := by
  refine OCon.mk (plainFor_of_name own_pn4) Z0 ?_
  intro p e s m below meth cd s₁ W0
  refine OF.cast (own_ef7_1L m b0 y1 (0 : Int32)) ?_
  have c_1___Int32_ : (1 : Int32).toInt = 1 := rfl
  refine o_aloadN W0 own_d7_0 (v := (.ref b0)) rfl rfl (pc' := 1) rfl ?_
  refine o_callV W0 E0 (rm8_L l Z a0 hw b0 h0 n0 W0.le cs fm ST hcs Fc) (ow hw 41 rfl) (ow hw 42 rfl) (notFace_of_selects (args := #[]) (mvT W0.hZ (ow hw 44 rfl))) (ow hw 44 rfl) (ow hw 43 rfl) (ow hw 8 rfl) (ow hw 45 rfl) (by decide) (argsL := []) (S := []) (lenOf own_pd4 rfl) rfl rfl rfl (wt := 0) rfl (by decide) (by decide) (by decide) (by decide) (kk' := 0) rfl (nn' := 0) rfl own_d7_1 (pc' := 4) rfl ?_
  intro vv T67 h67 W67 q67 z67
  obtain ⟨r67, rfl, q67⟩ := q67
  show OF _ _ _ _ _ _ _ T67 (mkF m 4 #[.val (.ref b0), .val (.int y1), .val (.int (0 : Int32))] [(.int r67)])
  obtain ⟨q67, rfl⟩ := q67
  obtain rfl : r67 = (1 : Int32) := q67
  refine o_if_eq W67 own_d7_4 (by decide) (pq := 23) (by decide) (pc' := 7) rfl (fun hc4 => ?_) (fun hc4 => ?_)
  · exact absurd hc4 (by decide)
  · refine o_aloadN W67 own_d7_7 (v := (.ref b0)) rfl rfl (pc' := 8) rfl ?_
    refine o_getF W67 (ow hw 25 rfl) Fv own_d7_8 (pc' := 11) rfl ?_
    intro T68 W68
    refine o_iloadN W68 own_d7_11 (v := y1) rfl (pc' := 12) rfl ?_
    refine o_iloadN W68 own_d7_12 (v := (0 : Int32)) rfl (pc' := 13) rfl ?_
    refine o_aloadN W68 own_d7_13 (v := (.ref b0)) rfl rfl (pc' := 14) rfl ?_
    refine o_callV W68 E0 (rm9_1L l Z a0 hw b0 h0 n0 W68.le cs fm ST hcs k0 b1 E0 Fv Fc A1) (ow hw 47 rfl) (ow hw 48 rfl) (notFace_of_selects (args := #[]) (mvT W68.hZ (ow hw 50 rfl))) (ow hw 50 rfl) (ow hw 49 rfl) (ow hw 8 rfl) (ow hw 51 rfl) (by decide) (argsL := []) (S := [(.int (0 : Int32)), (.int y1), (.ref b1)]) (lenOf own_pd5 rfl) rfl rfl rfl (wt := 3) rfl (by decide) (by decide) (by decide) (by decide) (kk' := 0) rfl (nn' := 0) rfl own_d7_14 (pc' := 17) rfl ?_
    intro vv T69 h69 W69 q69 z69
    obtain ⟨r69, rfl, q69⟩ := q69
    show OF _ _ _ _ _ _ _ T69 (mkF m 17 #[.val (.ref b0), .val (.int y1), .val (.int (0 : Int32))] [(.int r69), (.int (0 : Int32)), (.int y1), (.ref b1)])
    obtain ⟨q69, rfl⟩ := q69
    obtain rfl : r69 = (1 : Int32) := q69
    refine o_callSI W69 (rm11_1 l Z a0 hw b1 y1 h0 n0 W69.le hy k0 hk0 hall A1) (ow hw 57 rfl) (ow hw 58 rfl) (ow hw 59 rfl) (ow hw 60 rfl) (by decide) (argsL := [(.ref b1), (.int y1), (.int (0 : Int32)), (.int (1 : Int32))]) (S := []) (lenOf own_pd6 rfl) rfl rfl rfl (wt := 0) rfl (by decide) (by decide) (by decide) (by decide) (kk' := 0) rfl (nn' := 0) rfl own_d7_17 (pc' := 20) rfl ?_
    intro r70 T70 h70 W70 q70 z70
    obtain ⟨q70, rfl⟩ := q70
    refine o_goto W70 own_d7_20 (by decide) (pq := 36) (by decide) ?_
    refine o_retI W70 rfl own_d7_36 (by decide) (by decide) ?_
    exact ⟨_, rfl, q70, rfl⟩
theorem own_ef6_1L (m : MethodId) (z0 : Addr) (z1 : Int32) : entryFrame m #[(.ref z0), (.int z1)] 2 = mkF m 0 #[.val (.ref z0), .val (.int z1)] [] := by first | (simp [entryFrame, mkF, argsToLocals, Value.category]; done) | rfl
set_option maxRecDepth 65536 in
set_option maxHeartbeats 4000000 in
theorem rm6_1L (l : Launch) (Z : State) (a0 : Array Value) (hw : ∀ d ∈ tables_1, d.before a0 Z = true) (b0 : Addr) (y1 : Int32) (h0 : Heap) (n0 : Nat) (Z0 : n0 ≤ h0.size) (hy : 0 ≤ y1.toInt ∧ y1.toInt < 128) (cs : Int32) (fm : Value) (ST : OSt Z h0 cs fm) (hcs : ¬ cs.toInt = 0) (hfm : fm.isRef = true) (k0 : Int32) (hk0 : 0 ≤ k0.toInt ∧ k0.toInt ≤ 65535) (hall : k0.toInt ≤ 255) (b1 : Addr) (E0 : Exa Z h0 b0 "java/lang/String") (Fv : Fld Z h0 b0 "java/lang/String" "value" "[B" (.ref b1)) (Fc : Fld Z h0 b0 "java/lang/String" "coder" "B" (.int (0 : Int32))) (A1 : OA Z h0 b1 .byte [own_b k0]) :
    OCon l Z (⟨"java/lang/String", "indexOf", "(I)I"⟩ : MethodName) jdk_42_method_79_code 2 (some .int) [] ({ frames := 6, cells := 0, slots := 0, locals := 87 } : Room) #[(.ref b0), (.int y1)] h0 n0 (QI fun r h' => ((0 ≤ r.toInt ∧ (k0.toInt = y1.toInt)) ∨ (r.toInt < 0 ∧ ¬ (k0.toInt = y1.toInt))) ∧ h0 = h') := by
  refine OCon.mk (plainFor_of_name own_pn4) Z0 ?_
  intro p e s m below meth cd s₁ W0
  refine OF.cast (own_ef6_1L m b0 y1) ?_
  refine o_aloadN W0 own_d6_0 (v := (.ref b0)) rfl rfl (pc' := 1) rfl ?_
  refine o_iloadN W0 own_d6_1 (v := y1) rfl (pc' := 2) rfl ?_
  refine o_iconst W0 (v := (0 : Int32)) own_d6_2 rfl (pc' := 3) rfl ?_
  refine o_callV W0 E0 (rm7_1L l Z a0 hw b0 y1 h0 n0 W0.le hy cs fm ST hcs hfm k0 hk0 hall b1 E0 Fv Fc A1) (ow hw 36 rfl) (ow hw 37 rfl) (notFace_of_selects (args := #[]) (mvT W0.hZ (ow hw 39 rfl))) (ow hw 39 rfl) (ow hw 38 rfl) (ow hw 8 rfl) (ow hw 40 rfl) (by decide) (argsL := [(.int y1), (.int (0 : Int32))]) (S := []) (lenOf own_pd3 rfl) rfl rfl rfl (wt := 0) rfl (by decide) (by decide) (by decide) (by decide) (kk' := 0) rfl (nn' := 0) rfl own_d6_3 (pc' := 6) rfl ?_
  intro vv T71 h71 W71 q71 z71
  obtain ⟨r71, rfl, q71⟩ := q71
  show OF _ _ _ _ _ _ _ T71 (mkF m 6 #[.val (.ref b0), .val (.int y1)] [(.int r71)])
  obtain ⟨q71, rfl⟩ := q71
  refine o_retI W71 rfl own_d6_6 (by decide) (by decide) ?_
  exact ⟨_, rfl, q71, rfl⟩
theorem own_ef5_1L (m : MethodId) (z0 : Addr) : entryFrame m #[(.ref z0)] 1 = mkF m 0 #[.val (.ref z0)] [] := by first | (simp [entryFrame, mkF, argsToLocals, Value.category]; done) | rfl
set_option maxRecDepth 65536 in
set_option maxHeartbeats 4000000 in
theorem rm5_1L (l : Launch) (Z : State) (a0 : Array Value) (hw : ∀ d ∈ tables_1, d.before a0 Z = true) (b0 : Addr) (h0 : Heap) (n0 : Nat) (Z0 : n0 ≤ h0.size) (cs : Int32) (fm : Value) (ST : OSt Z h0 cs fm) (hcs : ¬ cs.toInt = 0) (hfm : fm.isRef = true) (k0 : Int32) (hk0 : 0 ≤ k0.toInt ∧ k0.toInt ≤ 65535) (hall : k0.toInt ≤ 255) (b1 : Addr) (E0 : Exa Z h0 b0 "java/lang/String") (Fv : Fld Z h0 b0 "java/lang/String" "value" "[B" (.ref b1)) (Fc : Fld Z h0 b0 "java/lang/String" "coder" "B" (.int (0 : Int32))) (A1 : OA Z h0 b1 .byte [own_b k0]) :
    OCon l Z (⟨"com/example/austere_access/austereaccess/policy/Glob", "isLiteral", "(Ljava/lang/String;)Z"⟩ : MethodName) prog_39_method_2_code 1 (some .boolean) [] ({ frames := 7, cells := 0, slots := 0, locals := 100 } : Room) #[(.ref b0)] h0 n0 (QI fun r h' => ((r = 1 ∧ ¬ (k0.toInt = 42 ∨ k0.toInt = 63)) ∨ (r = 0 ∧ (k0.toInt = 42 ∨ k0.toInt = 63))) ∧ h0 = h') := by
  refine OCon.mk (plainFor_of_name own_pn5) Z0 ?_
  intro p e s m below meth cd s₁ W0
  refine OF.cast (own_ef5_1L m b0) ?_
  have c42 : (42 : Int32).toInt = 42 := rfl
  have c63 : (63 : Int32).toInt = 63 := rfl
  refine o_aloadN W0 own_d5_0 (v := (.ref b0)) rfl rfl (pc' := 1) rfl ?_
  refine o_bipush W0 (v := (42 : Int32)) own_d5_1 rfl (pc' := 3) rfl ?_
  refine o_callV W0 E0 (rm6_1L l Z a0 hw b0 (42 : Int32) h0 n0 W0.le (by decide) cs fm ST hcs hfm k0 hk0 hall b1 E0 Fv Fc A1) (ow hw 31 rfl) (ow hw 32 rfl) (notFace_of_selects (args := #[]) (mvT W0.hZ (ow hw 34 rfl))) (ow hw 34 rfl) (ow hw 33 rfl) (ow hw 8 rfl) (ow hw 35 rfl) (by decide) (argsL := [(.int (42 : Int32))]) (S := []) (lenOf own_pd7 rfl) rfl rfl rfl (wt := 0) rfl (by decide) (by decide) (by decide) (by decide) (kk' := 0) rfl (nn' := 0) rfl own_d5_3 (pc' := 6) rfl ?_
  intro vv T72 h72 W72 q72 z72
  obtain ⟨r72, rfl, q72⟩ := q72
  show OF _ _ _ _ _ _ _ T72 (mkF m 6 #[.val (.ref b0)] [(.int r72)])
  obtain ⟨q72, rfl⟩ := q72
  refine o_if_ge W72 own_d5_6 (by decide) (pq := 22) (by decide) (pc' := 9) rfl (fun hc6 => ?_) (fun hc6 => ?_)
  · refine o_iconst W72 (v := (0 : Int32)) own_d5_22 rfl (pc' := 23) rfl ?_
    refine o_retN W72 (t := .boolean) rfl (by simp) own_d5_23 (by decide) (by decide) ?_
    exact ⟨(0 : Int32), rfl, Or.inr ⟨rfl, by omega⟩, rfl⟩
  · refine o_aloadN W72 own_d5_9 (v := (.ref b0)) rfl rfl (pc' := 10) rfl ?_
    refine o_bipush W72 (v := (63 : Int32)) own_d5_10 rfl (pc' := 12) rfl ?_
    refine o_callV W72 E0 (rm6_1L l Z a0 hw b0 (63 : Int32) h0 n0 W72.le (by decide) cs fm ST hcs hfm k0 hk0 hall b1 E0 Fv Fc A1) (ow hw 31 rfl) (ow hw 32 rfl) (notFace_of_selects (args := #[]) (mvT W72.hZ (ow hw 34 rfl))) (ow hw 34 rfl) (ow hw 33 rfl) (ow hw 8 rfl) (ow hw 35 rfl) (by decide) (argsL := [(.int (63 : Int32))]) (S := []) (lenOf own_pd7 rfl) rfl rfl rfl (wt := 0) rfl (by decide) (by decide) (by decide) (by decide) (kk' := 0) rfl (nn' := 0) rfl own_d5_12 (pc' := 15) rfl ?_
    intro vv T73 h73 W73 q73 z73
    obtain ⟨r73, rfl, q73⟩ := q73
    show OF _ _ _ _ _ _ _ T73 (mkF m 15 #[.val (.ref b0)] [(.int r73)])
    obtain ⟨q73, rfl⟩ := q73
    refine o_if_ge W73 own_d5_15 (by decide) (pq := 22) (by decide) (pc' := 18) rfl (fun hc15 => ?_) (fun hc15 => ?_)
    · refine o_iconst W73 (v := (0 : Int32)) own_d5_22 rfl (pc' := 23) rfl ?_
      refine o_retN W73 (t := .boolean) rfl (by simp) own_d5_23 (by decide) (by decide) ?_
      exact ⟨(0 : Int32), rfl, Or.inr ⟨rfl, by omega⟩, rfl⟩
    · refine o_iconst W73 (v := (1 : Int32)) own_d5_18 rfl (pc' := 19) rfl ?_
      refine o_goto W73 own_d5_19 (by decide) (pq := 23) (by decide) ?_
      refine o_retN W73 (t := .boolean) rfl (by simp) own_d5_23 (by decide) (by decide) ?_
      exact ⟨(1 : Int32), rfl, Or.inl ⟨rfl, by omega⟩, rfl⟩
theorem own_ef8_U (m : MethodId) (z0 : Addr) : entryFrame m #[(.ref z0)] 1 = mkF m 0 #[.val (.ref z0)] [] := by first | (simp [entryFrame, mkF, argsToLocals, Value.category]; done) | rfl
theorem own_d8_17 : decode jdk_42_method_154_code 17 = .ok (.iconst 0, 1) := by decide +kernel
set_option maxRecDepth 65536 in
set_option maxHeartbeats 4000000 in
theorem rm8_U (l : Launch) (Z : State) (a0 : Array Value) (hw : ∀ d ∈ tables_1, d.before a0 Z = true) (b0 : Addr) (h0 : Heap) (n0 : Nat) (Z0 : n0 ≤ h0.size) (cs : Int32) (fm : Value) (ST : OSt Z h0 cs fm) (hcs : ¬ cs.toInt = 0) (Fc : Fld Z h0 b0 "java/lang/String" "coder" "B" (.int (1 : Int32))) :
    OCon l Z (⟨"java/lang/String", "isLatin1", "()Z"⟩ : MethodName) jdk_42_method_154_code 1 (some .boolean) [] ({ frames := 0, cells := 0, slots := 0, locals := 0 } : Room) #[(.ref b0)] h0 n0 (QI fun r h' => r = 0 ∧ h0 = h') := by
  refine OCon.mk (plainFor_of_name own_pn4) Z0 ?_
  intro p e s m below meth cd s₁ W0
  refine OF.cast (own_ef8_U m b0) ?_
  have c_1___Int32_ : (1 : Int32).toInt = 1 := rfl
  refine o_getS W0 (ow hw 46 rfl) ST.1 own_d8_0 (pc' := 3) rfl ?_
  intro T74 W74
  refine o_if_eq W74 own_d8_3 (by decide) (pq := 17) (by decide) (pc' := 6) rfl (fun hc3 => ?_) (fun hc3 => ?_)
  · exact absurd hc3 hcs
  · refine o_aloadN W74 own_d8_6 (v := (.ref b0)) rfl rfl (pc' := 7) rfl ?_
    refine o_getF W74 (ow hw 26 rfl) Fc own_d8_7 (pc' := 10) rfl ?_
    intro T75 W75
    refine o_if_ne W75 own_d8_10 (by decide) (pq := 17) (by decide) (pc' := 13) rfl (fun hc10 => ?_) (fun hc10 => ?_)
    · refine o_iconst W75 (v := (0 : Int32)) own_d8_17 rfl (pc' := 18) rfl ?_
      refine o_retN W75 (t := .boolean) rfl (by simp) own_d8_18 (by decide) (by decide) ?_
      exact ⟨(0 : Int32), rfl, rfl, rfl⟩
    · exact absurd hc10 (by decide)
theorem own_ef10_U (m : MethodId) (z0 : Addr) : entryFrame m #[(.ref z0)] 1 = mkF m 0 #[.val (.ref z0)] [] := by first | (simp [entryFrame, mkF, argsToLocals, Value.category]; done) | rfl
set_option maxRecDepth 65536 in
set_option maxHeartbeats 4000000 in
theorem rm10_U (l : Launch) (Z : State) (a0 : Array Value) (hw : ∀ d ∈ tables_1, d.before a0 Z = true) (b0 : Addr) (h0 : Heap) (n0 : Nat) (Z0 : n0 ≤ h0.size) (cs : Int32) (fm : Value) (ST : OSt Z h0 cs fm) (hcs : ¬ cs.toInt = 0) (Fc : Fld Z h0 b0 "java/lang/String" "coder" "B" (.int (1 : Int32))) :
    OCon l Z (⟨"java/lang/String", "coder", "()B"⟩ : MethodName) jdk_42_method_152_code 1 (some .byte) [] ({ frames := 0, cells := 0, slots := 0, locals := 0 } : Room) #[(.ref b0)] h0 n0 (QI fun r h' => r = 1 ∧ h0 = h') := by
  refine OCon.mk (plainFor_of_name own_pn4) Z0 ?_
  intro p e s m below meth cd s₁ W0
  refine OF.cast (own_ef10_U m b0) ?_
  refine o_getS W0 (ow hw 46 rfl) ST.1 own_d10_0 (pc' := 3) rfl ?_
  intro T76 W76
  refine o_if_eq W76 own_d10_3 (by decide) (pq := 13) (by decide) (pc' := 6) rfl (fun hc3 => ?_) (fun hc3 => ?_)
  · exact absurd hc3 hcs
  · refine o_aloadN W76 own_d10_6 (v := (.ref b0)) rfl rfl (pc' := 7) rfl ?_
    refine o_getF W76 (ow hw 26 rfl) Fc own_d10_7 (pc' := 10) rfl ?_
    intro T77 W77
    refine o_goto W77 own_d10_10 (by decide) (pq := 14) (by decide) ?_
    refine o_retN W77 (t := .byte) rfl (by simp) own_d10_14 (by decide) (by decide) ?_
    exact ⟨1, rfl, rfl, rfl⟩
theorem own_ef9_1U (m : MethodId) (z0 : Addr) : entryFrame m #[(.ref z0)] 1 = mkF m 0 #[.val (.ref z0)] [] := by first | (simp [entryFrame, mkF, argsToLocals, Value.category]; done) | rfl
set_option maxRecDepth 65536 in
set_option maxHeartbeats 4000000 in
theorem rm9_1U (l : Launch) (Z : State) (a0 : Array Value) (hw : ∀ d ∈ tables_1, d.before a0 Z = true) (b0 : Addr) (h0 : Heap) (n0 : Nat) (Z0 : n0 ≤ h0.size) (cs : Int32) (fm : Value) (ST : OSt Z h0 cs fm) (hcs : ¬ cs.toInt = 0) (k0 : Int32) (b1 : Addr) (E0 : Exa Z h0 b0 "java/lang/String") (Fv : Fld Z h0 b0 "java/lang/String" "value" "[B" (.ref b1)) (Fc : Fld Z h0 b0 "java/lang/String" "coder" "B" (.int (1 : Int32))) (A1 : OA Z h0 b1 .byte [own_lo k0, own_hi k0]) :
    OCon l Z (⟨"java/lang/String", "length", "()I"⟩ : MethodName) jdk_42_method_54_code 1 (some .int) [] ({ frames := 1, cells := 0, slots := 0, locals := 13 } : Room) #[(.ref b0)] h0 n0 (QI fun r h' => r = (1 : Int32) ∧ h0 = h') := by
  refine OCon.mk (plainFor_of_name own_pn4) Z0 ?_
  intro p e s m below meth cd s₁ W0
  refine OF.cast (own_ef9_1U m b0) ?_
  refine o_aloadN W0 own_d9_0 (v := (.ref b0)) rfl rfl (pc' := 1) rfl ?_
  refine o_getF W0 (ow hw 25 rfl) Fv own_d9_1 (pc' := 4) rfl ?_
  intro T78 W78
  refine o_arraylength W78 A1 own_d9_4 (pc' := 5) rfl ?_
  intro v79 hv79
  obtain rfl : v79 = (2 : Int32) := o_eq (y := (2 : Int32)) hv79
  refine o_aloadN W78 own_d9_5 (v := (.ref b0)) rfl rfl (pc' := 6) rfl ?_
  refine o_callV W78 E0 (rm10_U l Z a0 hw b0 h0 n0 W78.le cs fm ST hcs Fc) (ow hw 52 rfl) (ow hw 53 rfl) (notFace_of_selects (args := #[]) (mvT W78.hZ (ow hw 55 rfl))) (ow hw 55 rfl) (ow hw 54 rfl) (ow hw 8 rfl) (ow hw 56 rfl) (by decide) (argsL := []) (S := [(.int (2 : Int32))]) (lenOf own_pd1 rfl) rfl rfl rfl (wt := 1) rfl (by decide) (by decide) (by decide) (by decide) (kk' := 0) rfl (nn' := 0) rfl own_d9_6 (pc' := 9) rfl ?_
  intro vv T80 h80 W80 q80 z80
  obtain ⟨r80, rfl, q80⟩ := q80
  show OF _ _ _ _ _ _ _ T80 (mkF m 9 #[.val (.ref b0)] [(.int r80), (.int (2 : Int32))])
  obtain ⟨q80, rfl⟩ := q80
  obtain rfl : r80 = (1 : Int32) := q80
  refine o_ishr W80 own_d9_9 (pc' := 10) rfl ?_
  show OF _ _ _ _ _ _ _ T80 (mkF m 10 #[.val (.ref b0)] [(.int (1 : Int32))])
  refine o_retI W80 rfl own_d9_10 (by decide) (by decide) ?_
  exact ⟨_, rfl, rfl, rfl⟩
theorem own_ef28_1 (m : MethodId) (z0 : Addr) : entryFrame m #[(.ref z0)] 1 = mkF m 0 #[.val (.ref z0)] [] := by first | (simp [entryFrame, mkF, argsToLocals, Value.category]; done) | rfl
theorem own_d28_0 : decode jdk_52_method_6_code 0 = .ok (.aload_n 0, 1) := by decide +kernel
theorem own_d28_1 : decode jdk_52_method_6_code 1 = .ok (.arraylength, 1) := by decide +kernel
theorem own_d28_2 : decode jdk_52_method_6_code 2 = .ok (.iconst 1, 1) := by decide +kernel
theorem own_d28_3 : decode jdk_52_method_6_code 3 = .ok (.ishr, 1) := by decide +kernel
theorem own_d28_4 : decode jdk_52_method_6_code 4 = .ok (.ireturn, 1) := by decide +kernel
set_option maxRecDepth 65536 in
set_option maxHeartbeats 4000000 in
theorem rm28_1 (l : Launch) (Z : State) (a0 : Array Value) (hw : ∀ d ∈ tables_1, d.before a0 Z = true) (b1 : Addr) (h0 : Heap) (n0 : Nat) (Z0 : n0 ≤ h0.size) (k0 : Int32) (A1 : OA Z h0 b1 .byte [own_lo k0, own_hi k0]) :
    OCon l Z (⟨"java/lang/StringUTF16", "length", "([B)I"⟩ : MethodName) jdk_52_method_6_code 1 (some .int) [] ({ frames := 0, cells := 0, slots := 0, locals := 0 } : Room) #[(.ref b1)] h0 n0 (QI fun r h' => r = (1 : Int32) ∧ h0 = h') := by
  refine OCon.mk (plainFor_of_name own_pn2) Z0 ?_
  intro p e s m below meth cd s₁ W0
  refine OF.cast (own_ef28_1 m b1) ?_
  refine o_aloadN W0 own_d28_0 (v := (.ref b1)) rfl rfl (pc' := 1) rfl ?_
  refine o_arraylength W0 A1 own_d28_1 (pc' := 2) rfl ?_
  intro v81 hv81
  obtain rfl : v81 = (2 : Int32) := o_eq (y := (2 : Int32)) hv81
  refine o_iconst W0 (v := (1 : Int32)) own_d28_2 rfl (pc' := 3) rfl ?_
  refine o_ishr W0 own_d28_3 (pc' := 4) rfl ?_
  show OF _ _ _ _ _ _ _ s₁ (mkF m 4 #[.val (.ref b1)] [(.int (1 : Int32))])
  refine o_retI W0 rfl own_d28_4 (by decide) (by decide) ?_
  exact ⟨_, rfl, rfl, rfl⟩
theorem own_ef27_1 (m : MethodId) (z0 : Int32) (z1 : Int32) (z2 : Addr) : entryFrame m #[(.int z0), (.int z1), (.ref z2)] 3 = mkF m 0 #[.val (.int z0), .val (.int z1), .val (.ref z2)] [] := by first | (simp [entryFrame, mkF, argsToLocals, Value.category]; done) | rfl
theorem own_d27_0 : decode jdk_52_method_93_code 0 = .ok (.iload_n 0, 1) := by decide +kernel
theorem own_d27_1 : decode jdk_52_method_93_code 1 = .ok (.iload_n 1, 1) := by decide +kernel
theorem own_d27_2 : decode jdk_52_method_93_code 2 = .ok (.aload_n 2, 1) := by decide +kernel
theorem own_d27_3 : decode jdk_52_method_93_code 3 = .ok (.invokestatic 48, 3) := by decide +kernel
theorem own_pd15 : parseMethodDescriptor "([B)I" = some ⟨[(.array .byte)], some .int⟩ := by decide +kernel
theorem own_d27_6 : decode jdk_52_method_93_code 6 = .ok (.invokestatic 241, 3) := by decide +kernel
theorem own_pd16 : parseMethodDescriptor "(III)V" = some ⟨[.int, .int, .int], none⟩ := by decide +kernel
theorem own_d27_9 : decode jdk_52_method_93_code 9 = .ok (.return_, 1) := by decide +kernel
set_option maxRecDepth 65536 in
set_option maxHeartbeats 4000000 in
theorem rm27_1 (l : Launch) (Z : State) (a0 : Array Value) (hw : ∀ d ∈ tables_1, d.before a0 Z = true) (b1 : Addr) (h0 : Heap) (n0 : Nat) (Z0 : n0 ≤ h0.size) (cs : Int32) (fm : Value) (ST : OSt Z h0 cs fm) (hfm : fm.isRef = true) (k0 : Int32) (A1 : OA Z h0 b1 .byte [own_lo k0, own_hi k0]) :
    OCon l Z (⟨"java/lang/StringUTF16", "checkBoundsBeginEnd", "(II[B)V"⟩ : MethodName) jdk_52_method_93_code 3 none [] ({ frames := 2, cells := 0, slots := 0, locals := 29 } : Room) #[(.int (0 : Int32)), (.int (1 : Int32)), (.ref b1)] h0 n0 (QV fun h' => h0 = h') := by
  refine OCon.mk (plainFor_of_name own_pn2) Z0 ?_
  intro p e s m below meth cd s₁ W0
  refine OF.cast (own_ef27_1 m (0 : Int32) (1 : Int32) b1) ?_
  refine o_iloadN W0 own_d27_0 (v := (0 : Int32)) rfl (pc' := 1) rfl ?_
  refine o_iloadN W0 own_d27_1 (v := (1 : Int32)) rfl (pc' := 2) rfl ?_
  refine o_aloadN W0 own_d27_2 (v := (.ref b1)) rfl rfl (pc' := 3) rfl ?_
  refine o_callSI W0 (rm28_1 l Z a0 hw b1 h0 n0 W0.le k0 A1) (ow hw 118 rfl) (ow hw 119 rfl) (ow hw 73 rfl) (ow hw 120 rfl) (by decide) (argsL := [(.ref b1)]) (S := [(.int (1 : Int32)), (.int (0 : Int32))]) (lenOf own_pd15 rfl) rfl rfl rfl (wt := 2) rfl (by decide) (by decide) (by decide) (by decide) (kk' := 0) rfl (nn' := 0) rfl own_d27_3 (pc' := 6) rfl ?_
  intro r82 T82 h82 W82 q82 z82
  obtain ⟨q82, rfl⟩ := q82
  obtain rfl : r82 = (1 : Int32) := q82
  refine o_callS W82 (rm29 l Z a0 hw (0 : Int32) (1 : Int32) (1 : Int32) h0 n0 W82.le cs fm ST hfm (by decide)) (ow hw 121 rfl) (ow hw 122 rfl) (ow hw 8 rfl) (ow hw 123 rfl) (by decide) (argsL := [(.int (0 : Int32)), (.int (1 : Int32)), (.int (1 : Int32))]) (S := []) (lenOf own_pd16 rfl) rfl rfl rfl (wt := 0) rfl (by decide) (by decide) (by decide) (by decide) (kk' := 0) rfl (nn' := 0) rfl own_d27_6 (pc' := 9) rfl ?_
  intro r83 T83 h83 W83 q83 z83
  obtain ⟨rfl, q83⟩ := q83
  show OF _ _ _ _ _ _ _ T83 (mkF m 9 #[.val (.int (0 : Int32)), .val (.int (1 : Int32)), .val (.ref b1)] [])
  obtain rfl := q83
  refine o_retV W83 rfl own_d27_9 (by decide) (by decide) ?_
  exact ⟨rfl, rfl⟩
theorem own_ef31_1 (m : MethodId) (z0 : Addr) (z1 : Int32) (z2 : Int32) (z3 : Int32) : entryFrame m #[(.ref z0), (.int z1), (.int z2), (.int z3)] 5 = mkF m 0 #[.val (.ref z0), .val (.int z1), .val (.int z2), .val (.int z3), .unset] [] := by first | (simp [entryFrame, mkF, argsToLocals, Value.category]; done) | rfl
theorem own_d31_0 : decode jdk_52_method_48_code 0 = .ok (.iload_n 2, 1) := by decide +kernel
theorem own_d31_1 : decode jdk_52_method_48_code 1 = .ok (.istore 4, 2) := by decide +kernel
theorem own_d31_3 : decode jdk_52_method_48_code 3 = .ok (.iload 4, 2) := by decide +kernel
theorem own_d31_5 : decode jdk_52_method_48_code 5 = .ok (.iload_n 3, 1) := by decide +kernel
theorem own_d31_6 : decode jdk_52_method_48_code 6 = .ok (.if_icmp .ge 22, 3) := by decide +kernel
theorem own_d31_9 : decode jdk_52_method_48_code 9 = .ok (.aload_n 0, 1) := by decide +kernel
theorem own_d31_10 : decode jdk_52_method_48_code 10 = .ok (.iload 4, 2) := by decide +kernel
theorem own_d31_12 : decode jdk_52_method_48_code 12 = .ok (.invokestatic 71, 3) := by decide +kernel
theorem own_d31_15 : decode jdk_52_method_48_code 15 = .ok (.iload_n 1, 1) := by decide +kernel
theorem own_d31_16 : decode jdk_52_method_48_code 16 = .ok (.if_icmp .ne 6, 3) := by decide +kernel
theorem own_d31_22 : decode jdk_52_method_48_code 22 = .ok (.iinc 4 1, 3) := by decide +kernel
theorem own_d31_25 : decode jdk_52_method_48_code 25 = .ok (.goto (-22), 3) := by decide +kernel
theorem own_d31_28 : decode jdk_52_method_48_code 28 = .ok (.iconst (-1), 1) := by decide +kernel
theorem own_d31_29 : decode jdk_52_method_48_code 29 = .ok (.ireturn, 1) := by decide +kernel
theorem own_d31_19 : decode jdk_52_method_48_code 19 = .ok (.iload 4, 2) := by decide +kernel
theorem own_d31_21 : decode jdk_52_method_48_code 21 = .ok (.ireturn, 1) := by decide +kernel
set_option maxRecDepth 65536 in
set_option maxHeartbeats 4000000 in
theorem rm31_1 (l : Launch) (Z : State) (a0 : Array Value) (hw : ∀ d ∈ tables_1, d.before a0 Z = true) (b1 : Addr) (y1 : Int32) (h0 : Heap) (n0 : Nat) (Z0 : n0 ≤ h0.size) (cs : Int32) (fm : Value) (ST : OSt Z h0 cs fm) (hy : 0 ≤ y1.toInt ∧ y1.toInt < 128) (k0 : Int32) (hk0 : 0 ≤ k0.toInt ∧ k0.toInt ≤ 65535) (A1 : OA Z h0 b1 .byte [own_lo k0, own_hi k0]) :
    OCon l Z (⟨"java/lang/StringUTF16", "indexOfCharUnsafe", "([BIII)I"⟩ : MethodName) jdk_52_method_48_code 5 (some .int) [] ({ frames := 1, cells := 0, slots := 0, locals := 13 } : Room) #[(.ref b1), (.int y1), (.int (0 : Int32)), (.int (1 : Int32))] h0 n0 (QI fun r h' => ((0 ≤ r.toInt ∧ (k0.toInt = y1.toInt)) ∨ (r.toInt < 0 ∧ ¬ (k0.toInt = y1.toInt))) ∧ h0 = h') := by
  refine OCon.mk (plainFor_of_name own_pn2) Z0 ?_
  intro p e s m below meth cd s₁ W0
  refine OF.cast (own_ef31_1 m b1 y1 (0 : Int32) (1 : Int32)) ?_
  have cm1 : (-1 : Int32).toInt = -1 := rfl
  have ci0 : (0 : Int32).toInt = 0 := rfl
  have ci1 : (1 : Int32).toInt = 1 := rfl
  have ci2 : (2 : Int32).toInt = 2 := rfl
  have ci3 : (3 : Int32).toInt = 3 := rfl
  have ci4 : (4 : Int32).toInt = 4 := rfl
  refine o_iloadN W0 own_d31_0 (v := (0 : Int32)) rfl (pc' := 1) rfl ?_
  refine o_istore W0 (L' := #[.val (.ref b1), .val (.int y1), .val (.int (0 : Int32)), .val (.int (1 : Int32)), .val (.int (0 : Int32))]) own_d31_1 rfl (pc' := 3) rfl ?_
  refine o_iload W0 own_d31_3 (v := (0 : Int32)) rfl (pc' := 5) rfl ?_
  refine o_iloadN W0 own_d31_5 (v := (1 : Int32)) rfl (pc' := 6) rfl ?_
  refine o_icmp_ge W0 own_d31_6 (by decide) (pq := 28) (by decide) (pc' := 9) rfl (fun hc6 => ?_) (fun hc6 => ?_)
  · exact absurd hc6 (by decide)
  · refine o_aloadN W0 own_d31_9 (v := (.ref b1)) rfl rfl (pc' := 10) rfl ?_
    refine o_iload W0 own_d31_10 (v := (0 : Int32)) rfl (pc' := 12) rfl ?_
    refine o_callSI W0 (rm24 l Z a0 hw b1 (0 : Int32) h0 n0 W0.le cs fm ST _ 0 _ _ A1 rfl (by decide) rfl rfl) (ow hw 103 rfl) (ow hw 104 rfl) (ow hw 73 rfl) (ow hw 105 rfl) (by decide) (argsL := [(.ref b1), (.int (0 : Int32))]) (S := []) (lenOf own_pd12 rfl) rfl rfl rfl (wt := 0) rfl (by decide) (by decide) (by decide) (by decide) (kk' := 0) rfl (nn' := 0) rfl own_d31_12 (pc' := 15) rfl ?_
    intro r84 T84 h84 W84 q84 z84
    obtain ⟨q84, rfl⟩ := q84
    obtain rfl : r84 = k0 := q84.trans (own_gcv k0 hk0.1 hk0.2)
    refine o_iloadN W84 own_d31_15 (v := y1) rfl (pc' := 16) rfl ?_
    refine o_icmp_ne W84 own_d31_16 (by decide) (pq := 22) (by decide) (pc' := 19) rfl (fun hc16 => ?_) (fun hc16 => ?_)
    · refine o_iinc W84 (x := (0 : Int32)) (L' := #[.val (.ref b1), .val (.int y1), .val (.int (0 : Int32)), .val (.int (1 : Int32)), .val (.int ((0 : Int32) + (1 : Int32)))]) own_d31_22 rfl rfl (pc' := 25) rfl ?_
      show OF _ _ _ _ _ _ _ T84 (mkF m 25 #[.val (.ref b1), .val (.int y1), .val (.int (0 : Int32)), .val (.int (1 : Int32)), .val (.int (1 : Int32))] [])
      refine o_goto W84 own_d31_25 (by decide) (pq := 3) (by decide) ?_
      refine o_iload W84 own_d31_3 (v := (1 : Int32)) rfl (pc' := 5) rfl ?_
      refine o_iloadN W84 own_d31_5 (v := (1 : Int32)) rfl (pc' := 6) rfl ?_
      refine o_icmp_ge W84 own_d31_6 (by decide) (pq := 28) (by decide) (pc' := 9) rfl (fun hc6 => ?_) (fun hc6 => ?_)
      · refine o_iconst W84 (v := (-1 : Int32)) own_d31_28 rfl (pc' := 29) rfl ?_
        refine o_retI W84 rfl own_d31_29 (by decide) (by decide) ?_
        exact ⟨_, rfl, by omega, rfl⟩
      · exact absurd hc6 (by decide)
    · refine o_iload W84 own_d31_19 (v := (0 : Int32)) rfl (pc' := 21) rfl ?_
      refine o_retI W84 rfl own_d31_21 (by decide) (by decide) ?_
      exact ⟨_, rfl, by omega, rfl⟩
theorem own_ef26_1 (m : MethodId) (z0 : Addr) (z1 : Int32) (z2 : Int32) (z3 : Int32) : entryFrame m #[(.ref z0), (.int z1), (.int z2), (.int z3)] 4 = mkF m 0 #[.val (.ref z0), .val (.int z1), .val (.int z2), .val (.int z3)] [] := by first | (simp [entryFrame, mkF, argsToLocals, Value.category]; done) | rfl
theorem own_d26_0 : decode jdk_52_method_47_code 0 = .ok (.iload_n 2, 1) := by decide +kernel
theorem own_d26_1 : decode jdk_52_method_47_code 1 = .ok (.iload_n 3, 1) := by decide +kernel
theorem own_d26_2 : decode jdk_52_method_47_code 2 = .ok (.aload_n 0, 1) := by decide +kernel
theorem own_d26_3 : decode jdk_52_method_47_code 3 = .ok (.invokestatic 96, 3) := by decide +kernel
theorem own_pd17 : parseMethodDescriptor "(II[B)V" = some ⟨[.int, .int, (.array .byte)], none⟩ := by decide +kernel
theorem own_d26_6 : decode jdk_52_method_47_code 6 = .ok (.aload_n 0, 1) := by decide +kernel
theorem own_d26_7 : decode jdk_52_method_47_code 7 = .ok (.iload_n 1, 1) := by decide +kernel
theorem own_d26_8 : decode jdk_52_method_47_code 8 = .ok (.iload_n 2, 1) := by decide +kernel
theorem own_d26_9 : decode jdk_52_method_47_code 9 = .ok (.iload_n 3, 1) := by decide +kernel
theorem own_d26_10 : decode jdk_52_method_47_code 10 = .ok (.invokestatic 244, 3) := by decide +kernel
theorem own_d26_13 : decode jdk_52_method_47_code 13 = .ok (.ireturn, 1) := by decide +kernel
set_option maxRecDepth 65536 in
set_option maxHeartbeats 4000000 in
theorem rm26_1 (l : Launch) (Z : State) (a0 : Array Value) (hw : ∀ d ∈ tables_1, d.before a0 Z = true) (b1 : Addr) (y1 : Int32) (h0 : Heap) (n0 : Nat) (Z0 : n0 ≤ h0.size) (cs : Int32) (fm : Value) (ST : OSt Z h0 cs fm) (hfm : fm.isRef = true) (hy : 0 ≤ y1.toInt ∧ y1.toInt < 128) (k0 : Int32) (hk0 : 0 ≤ k0.toInt ∧ k0.toInt ≤ 65535) (A1 : OA Z h0 b1 .byte [own_lo k0, own_hi k0]) :
    OCon l Z (⟨"java/lang/StringUTF16", "indexOfChar", "([BIII)I"⟩ : MethodName) jdk_52_method_47_code 4 (some .int) [] ({ frames := 3, cells := 0, slots := 0, locals := 43 } : Room) #[(.ref b1), (.int y1), (.int (0 : Int32)), (.int (1 : Int32))] h0 n0 (QI fun r h' => ((0 ≤ r.toInt ∧ (k0.toInt = y1.toInt)) ∨ (r.toInt < 0 ∧ ¬ (k0.toInt = y1.toInt))) ∧ h0 = h') := by
  refine OCon.mk (plainFor_of_name own_pn2) Z0 ?_
  intro p e s m below meth cd s₁ W0
  refine OF.cast (own_ef26_1 m b1 y1 (0 : Int32) (1 : Int32)) ?_
  refine o_iloadN W0 own_d26_0 (v := (0 : Int32)) rfl (pc' := 1) rfl ?_
  refine o_iloadN W0 own_d26_1 (v := (1 : Int32)) rfl (pc' := 2) rfl ?_
  refine o_aloadN W0 own_d26_2 (v := (.ref b1)) rfl rfl (pc' := 3) rfl ?_
  refine o_callS W0 (rm27_1 l Z a0 hw b1 h0 n0 W0.le cs fm ST hfm k0 A1) (ow hw 115 rfl) (ow hw 116 rfl) (ow hw 73 rfl) (ow hw 117 rfl) (by decide) (argsL := [(.int (0 : Int32)), (.int (1 : Int32)), (.ref b1)]) (S := []) (lenOf own_pd17 rfl) rfl rfl rfl (wt := 0) rfl (by decide) (by decide) (by decide) (by decide) (kk' := 0) rfl (nn' := 0) rfl own_d26_3 (pc' := 6) rfl ?_
  intro r85 T85 h85 W85 q85 z85
  obtain ⟨rfl, q85⟩ := q85
  show OF _ _ _ _ _ _ _ T85 (mkF m 6 #[.val (.ref b1), .val (.int y1), .val (.int (0 : Int32)), .val (.int (1 : Int32))] [])
  obtain rfl := q85
  refine o_aloadN W85 own_d26_6 (v := (.ref b1)) rfl rfl (pc' := 7) rfl ?_
  refine o_iloadN W85 own_d26_7 (v := y1) rfl (pc' := 8) rfl ?_
  refine o_iloadN W85 own_d26_8 (v := (0 : Int32)) rfl (pc' := 9) rfl ?_
  refine o_iloadN W85 own_d26_9 (v := (1 : Int32)) rfl (pc' := 10) rfl ?_
  refine o_callSI W85 (rm31_1 l Z a0 hw b1 y1 h0 n0 W85.le cs fm ST hy k0 hk0 A1) (ow hw 129 rfl) (ow hw 130 rfl) (ow hw 73 rfl) (ow hw 131 rfl) (by decide) (argsL := [(.ref b1), (.int y1), (.int (0 : Int32)), (.int (1 : Int32))]) (S := []) (lenOf own_pd6 rfl) rfl rfl rfl (wt := 0) rfl (by decide) (by decide) (by decide) (by decide) (kk' := 0) rfl (nn' := 0) rfl own_d26_10 (pc' := 13) rfl ?_
  intro r86 T86 h86 W86 q86 z86
  obtain ⟨q86, rfl⟩ := q86
  refine o_retI W86 rfl own_d26_13 (by decide) (by decide) ?_
  exact ⟨_, rfl, q86, rfl⟩
theorem own_ef25_1 (m : MethodId) (z0 : Addr) (z1 : Int32) (z2 : Int32) (z3 : Int32) : entryFrame m #[(.ref z0), (.int z1), (.int z2), (.int z3)] 4 = mkF m 0 #[.val (.ref z0), .val (.int z1), .val (.int z2), .val (.int z3)] [] := by first | (simp [entryFrame, mkF, argsToLocals, Value.category]; done) | rfl
theorem own_d25_0 : decode jdk_52_method_40_code 0 = .ok (.iload_n 2, 1) := by decide +kernel
theorem own_d25_1 : decode jdk_52_method_40_code 1 = .ok (.iconst 0, 1) := by decide +kernel
theorem own_d25_2 : decode jdk_52_method_40_code 2 = .ok (.invokestatic 224, 3) := by decide +kernel
theorem own_d25_5 : decode jdk_52_method_40_code 5 = .ok (.istore_n 2, 1) := by decide +kernel
theorem own_d25_6 : decode jdk_52_method_40_code 6 = .ok (.iload_n 3, 1) := by decide +kernel
theorem own_d25_7 : decode jdk_52_method_40_code 7 = .ok (.aload_n 0, 1) := by decide +kernel
theorem own_d25_8 : decode jdk_52_method_40_code 8 = .ok (.arraylength, 1) := by decide +kernel
theorem own_d25_9 : decode jdk_52_method_40_code 9 = .ok (.iconst 1, 1) := by decide +kernel
theorem own_d25_10 : decode jdk_52_method_40_code 10 = .ok (.ishr, 1) := by decide +kernel
theorem own_d25_11 : decode jdk_52_method_40_code 11 = .ok (.invokestatic 183, 3) := by decide +kernel
theorem own_d25_14 : decode jdk_52_method_40_code 14 = .ok (.istore_n 3, 1) := by decide +kernel
theorem own_d25_15 : decode jdk_52_method_40_code 15 = .ok (.iload_n 2, 1) := by decide +kernel
theorem own_d25_16 : decode jdk_52_method_40_code 16 = .ok (.iload_n 3, 1) := by decide +kernel
theorem own_d25_17 : decode jdk_52_method_40_code 17 = .ok (.if_icmp .lt 5, 3) := by decide +kernel
theorem own_d25_22 : decode jdk_52_method_40_code 22 = .ok (.iload_n 1, 1) := by decide +kernel
theorem own_d25_23 : decode jdk_52_method_40_code 23 = .ok (.ldc 227, 2) := by decide +kernel
theorem own_d25_25 : decode jdk_52_method_40_code 25 = .ok (.if_icmp .ge 11, 3) := by decide +kernel
theorem own_d25_28 : decode jdk_52_method_40_code 28 = .ok (.aload_n 0, 1) := by decide +kernel
theorem own_d25_29 : decode jdk_52_method_40_code 29 = .ok (.iload_n 1, 1) := by decide +kernel
theorem own_d25_30 : decode jdk_52_method_40_code 30 = .ok (.iload_n 2, 1) := by decide +kernel
theorem own_d25_31 : decode jdk_52_method_40_code 31 = .ok (.iload_n 3, 1) := by decide +kernel
theorem own_d25_32 : decode jdk_52_method_40_code 32 = .ok (.invokestatic 228, 3) := by decide +kernel
theorem own_d25_35 : decode jdk_52_method_40_code 35 = .ok (.ireturn, 1) := by decide +kernel
set_option maxRecDepth 65536 in
set_option maxHeartbeats 4000000 in
theorem rm25_1 (l : Launch) (Z : State) (a0 : Array Value) (hw : ∀ d ∈ tables_1, d.before a0 Z = true) (b1 : Addr) (y1 : Int32) (h0 : Heap) (n0 : Nat) (Z0 : n0 ≤ h0.size) (cs : Int32) (fm : Value) (ST : OSt Z h0 cs fm) (hfm : fm.isRef = true) (hy : 0 ≤ y1.toInt ∧ y1.toInt < 128) (k0 : Int32) (hk0 : 0 ≤ k0.toInt ∧ k0.toInt ≤ 65535) (A1 : OA Z h0 b1 .byte [own_lo k0, own_hi k0]) :
    OCon l Z (⟨"java/lang/StringUTF16", "indexOf", "([BIII)I"⟩ : MethodName) jdk_52_method_40_code 4 (some .int) [] ({ frames := 4, cells := 0, slots := 0, locals := 58 } : Room) #[(.ref b1), (.int y1), (.int (0 : Int32)), (.int (1 : Int32))] h0 n0 (QI fun r h' => ((0 ≤ r.toInt ∧ (k0.toInt = y1.toInt)) ∨ (r.toInt < 0 ∧ ¬ (k0.toInt = y1.toInt))) ∧ h0 = h') := by
  refine OCon.mk (plainFor_of_name own_pn2) Z0 ?_
  intro p e s m below meth cd s₁ W0
  refine OF.cast (own_ef25_1 m b1 y1 (0 : Int32) (1 : Int32)) ?_
  have c_0___Int32_ : (0 : Int32).toInt = 0 := rfl
  have c_1___Int32_ : (1 : Int32).toInt = 1 := rfl
  have c_65536___Int32_ : (65536 : Int32).toInt = 65536 := rfl
  refine o_iloadN W0 own_d25_0 (v := (0 : Int32)) rfl (pc' := 1) rfl ?_
  refine o_iconst W0 (v := (0 : Int32)) own_d25_1 rfl (pc' := 2) rfl ?_
  refine o_callSI W0 (rm13 l Z a0 hw (0 : Int32) (0 : Int32) h0 n0 W0.le) (ow hw 109 rfl) (ow hw 65 rfl) (ow hw 66 rfl) (ow hw 67 rfl) (by decide) (argsL := [(.int (0 : Int32)), (.int (0 : Int32))]) (S := []) (lenOf own_pd3 rfl) rfl rfl rfl (wt := 0) rfl (by decide) (by decide) (by decide) (by decide) (kk' := 0) rfl (nn' := 0) rfl own_d25_2 (pc' := 5) rfl ?_
  intro r87 T87 h87 W87 q87 z87
  obtain ⟨q87, rfl⟩ := q87
  obtain rfl : r87 = (0 : Int32) := by
    rcases q87 with ⟨_, q⟩ | ⟨_, q⟩ <;> exact q
  refine o_istoreN W87 (L' := #[.val (.ref b1), .val (.int y1), .val (.int (0 : Int32)), .val (.int (1 : Int32))]) own_d25_5 rfl (pc' := 6) rfl ?_
  refine o_iloadN W87 own_d25_6 (v := (1 : Int32)) rfl (pc' := 7) rfl ?_
  refine o_aloadN W87 own_d25_7 (v := (.ref b1)) rfl rfl (pc' := 8) rfl ?_
  refine o_arraylength W87 A1 own_d25_8 (pc' := 9) rfl ?_
  intro v88 hv88
  obtain rfl : v88 = (2 : Int32) := o_eq (y := (2 : Int32)) hv88
  refine o_iconst W87 (v := (1 : Int32)) own_d25_9 rfl (pc' := 10) rfl ?_
  refine o_ishr W87 own_d25_10 (pc' := 11) rfl ?_
  show OF _ _ _ _ _ _ _ T87 (mkF m 11 #[.val (.ref b1), .val (.int y1), .val (.int (0 : Int32)), .val (.int (1 : Int32))] [(.int (1 : Int32)), (.int (1 : Int32))])
  refine o_callSI W87 (rm14 l Z a0 hw (1 : Int32) (1 : Int32) h0 n0 W87.le) (ow hw 110 rfl) (ow hw 69 rfl) (ow hw 66 rfl) (ow hw 70 rfl) (by decide) (argsL := [(.int (1 : Int32)), (.int (1 : Int32))]) (S := []) (lenOf own_pd3 rfl) rfl rfl rfl (wt := 0) rfl (by decide) (by decide) (by decide) (by decide) (kk' := 0) rfl (nn' := 0) rfl own_d25_11 (pc' := 14) rfl ?_
  intro r89 T89 h89 W89 q89 z89
  obtain ⟨q89, rfl⟩ := q89
  obtain rfl : r89 = (1 : Int32) := by
    rcases q89 with ⟨_, q⟩ | ⟨_, q⟩ <;> exact q
  refine o_istoreN W89 (L' := #[.val (.ref b1), .val (.int y1), .val (.int (0 : Int32)), .val (.int (1 : Int32))]) own_d25_14 rfl (pc' := 15) rfl ?_
  refine o_iloadN W89 own_d25_15 (v := (0 : Int32)) rfl (pc' := 16) rfl ?_
  refine o_iloadN W89 own_d25_16 (v := (1 : Int32)) rfl (pc' := 17) rfl ?_
  refine o_icmp_lt W89 own_d25_17 (by decide) (pq := 22) (by decide) (pc' := 20) rfl (fun hc17 => ?_) (fun hc17 => ?_)
  · refine o_iloadN W89 own_d25_22 (v := y1) rfl (pc' := 23) rfl ?_
    refine o_ldc W89 (ow hw 111 rfl) own_d25_23 (pc' := 25) rfl ?_
    refine o_icmp_ge W89 own_d25_25 (by decide) (pq := 36) (by decide) (pc' := 28) rfl (fun hc25 => ?_) (fun hc25 => ?_)
    · exfalso; omega
    · refine o_aloadN W89 own_d25_28 (v := (.ref b1)) rfl rfl (pc' := 29) rfl ?_
      refine o_iloadN W89 own_d25_29 (v := y1) rfl (pc' := 30) rfl ?_
      refine o_iloadN W89 own_d25_30 (v := (0 : Int32)) rfl (pc' := 31) rfl ?_
      refine o_iloadN W89 own_d25_31 (v := (1 : Int32)) rfl (pc' := 32) rfl ?_
      refine o_callSI W89 (rm26_1 l Z a0 hw b1 y1 h0 n0 W89.le cs fm ST hfm hy k0 hk0 A1) (ow hw 112 rfl) (ow hw 113 rfl) (ow hw 73 rfl) (ow hw 114 rfl) (by decide) (argsL := [(.ref b1), (.int y1), (.int (0 : Int32)), (.int (1 : Int32))]) (S := []) (lenOf own_pd6 rfl) rfl rfl rfl (wt := 0) rfl (by decide) (by decide) (by decide) (by decide) (kk' := 0) rfl (nn' := 0) rfl own_d25_32 (pc' := 35) rfl ?_
      intro r90 T90 h90 W90 q90 z90
      obtain ⟨q90, rfl⟩ := q90
      refine o_retI W90 rfl own_d25_35 (by decide) (by decide) ?_
      exact ⟨_, rfl, q90, rfl⟩
  · exact absurd hc17 (by decide)
theorem own_ef7_1U (m : MethodId) (z0 : Addr) (z1 : Int32) (z2 : Int32) : entryFrame m #[(.ref z0), (.int z1), (.int z2)] 3 = mkF m 0 #[.val (.ref z0), .val (.int z1), .val (.int z2)] [] := by first | (simp [entryFrame, mkF, argsToLocals, Value.category]; done) | rfl
theorem own_d7_23 : decode jdk_42_method_80_code 23 = .ok (.aload_n 0, 1) := by decide +kernel
theorem own_d7_24 : decode jdk_42_method_80_code 24 = .ok (.getfield 9, 3) := by decide +kernel
theorem own_d7_27 : decode jdk_42_method_80_code 27 = .ok (.iload_n 1, 1) := by decide +kernel
theorem own_d7_28 : decode jdk_42_method_80_code 28 = .ok (.iload_n 2, 1) := by decide +kernel
theorem own_d7_29 : decode jdk_42_method_80_code 29 = .ok (.aload_n 0, 1) := by decide +kernel
theorem own_d7_30 : decode jdk_42_method_80_code 30 = .ok (.invokevirtual 505, 3) := by decide +kernel
theorem own_d7_33 : decode jdk_42_method_80_code 33 = .ok (.invokestatic 640, 3) := by decide +kernel
set_option maxRecDepth 65536 in
set_option maxHeartbeats 4000000 in
theorem rm7_1U (l : Launch) (Z : State) (a0 : Array Value) (hw : ∀ d ∈ tables_1, d.before a0 Z = true) (b0 : Addr) (y1 : Int32) (h0 : Heap) (n0 : Nat) (Z0 : n0 ≤ h0.size) (hy : 0 ≤ y1.toInt ∧ y1.toInt < 128) (cs : Int32) (fm : Value) (ST : OSt Z h0 cs fm) (hcs : ¬ cs.toInt = 0) (hfm : fm.isRef = true) (k0 : Int32) (hk0 : 0 ≤ k0.toInt ∧ k0.toInt ≤ 65535) (b1 : Addr) (E0 : Exa Z h0 b0 "java/lang/String") (Fv : Fld Z h0 b0 "java/lang/String" "value" "[B" (.ref b1)) (Fc : Fld Z h0 b0 "java/lang/String" "coder" "B" (.int (1 : Int32))) (A1 : OA Z h0 b1 .byte [own_lo k0, own_hi k0]) :
    OCon l Z (⟨"java/lang/String", "indexOf", "(II)I"⟩ : MethodName) jdk_42_method_80_code 3 (some .int) [] ({ frames := 5, cells := 0, slots := 0, locals := 73 } : Room) #[(.ref b0), (.int y1), (.int (0 : Int32))] h0 n0 (QI fun r h' => ((0 ≤ r.toInt ∧ (k0.toInt = y1.toInt)) ∨ (r.toInt < 0 ∧ ¬ (k0.toInt = y1.toInt))) ∧ h0 = h') := by
  refine OCon.mk (plainFor_of_name own_pn4) Z0 ?_
  intro p e s m below meth cd s₁ W0
  refine OF.cast (own_ef7_1U m b0 y1 (0 : Int32)) ?_
  have c_0___Int32_ : (0 : Int32).toInt = 0 := rfl
  refine o_aloadN W0 own_d7_0 (v := (.ref b0)) rfl rfl (pc' := 1) rfl ?_
  refine o_callV W0 E0 (rm8_U l Z a0 hw b0 h0 n0 W0.le cs fm ST hcs Fc) (ow hw 41 rfl) (ow hw 42 rfl) (notFace_of_selects (args := #[]) (mvT W0.hZ (ow hw 44 rfl))) (ow hw 44 rfl) (ow hw 43 rfl) (ow hw 8 rfl) (ow hw 45 rfl) (by decide) (argsL := []) (S := []) (lenOf own_pd4 rfl) rfl rfl rfl (wt := 0) rfl (by decide) (by decide) (by decide) (by decide) (kk' := 0) rfl (nn' := 0) rfl own_d7_1 (pc' := 4) rfl ?_
  intro vv T91 h91 W91 q91 z91
  obtain ⟨r91, rfl, q91⟩ := q91
  show OF _ _ _ _ _ _ _ T91 (mkF m 4 #[.val (.ref b0), .val (.int y1), .val (.int (0 : Int32))] [(.int r91)])
  obtain ⟨q91, rfl⟩ := q91
  obtain rfl : r91 = (0 : Int32) := q91
  refine o_if_eq W91 own_d7_4 (by decide) (pq := 23) (by decide) (pc' := 7) rfl (fun hc4 => ?_) (fun hc4 => ?_)
  · refine o_aloadN W91 own_d7_23 (v := (.ref b0)) rfl rfl (pc' := 24) rfl ?_
    refine o_getF W91 (ow hw 25 rfl) Fv own_d7_24 (pc' := 27) rfl ?_
    intro T92 W92
    refine o_iloadN W92 own_d7_27 (v := y1) rfl (pc' := 28) rfl ?_
    refine o_iloadN W92 own_d7_28 (v := (0 : Int32)) rfl (pc' := 29) rfl ?_
    refine o_aloadN W92 own_d7_29 (v := (.ref b0)) rfl rfl (pc' := 30) rfl ?_
    refine o_callV W92 E0 (rm9_1U l Z a0 hw b0 h0 n0 W92.le cs fm ST hcs k0 b1 E0 Fv Fc A1) (ow hw 47 rfl) (ow hw 48 rfl) (notFace_of_selects (args := #[]) (mvT W92.hZ (ow hw 50 rfl))) (ow hw 50 rfl) (ow hw 49 rfl) (ow hw 8 rfl) (ow hw 51 rfl) (by decide) (argsL := []) (S := [(.int (0 : Int32)), (.int y1), (.ref b1)]) (lenOf own_pd5 rfl) rfl rfl rfl (wt := 3) rfl (by decide) (by decide) (by decide) (by decide) (kk' := 0) rfl (nn' := 0) rfl own_d7_30 (pc' := 33) rfl ?_
    intro vv T93 h93 W93 q93 z93
    obtain ⟨r93, rfl, q93⟩ := q93
    show OF _ _ _ _ _ _ _ T93 (mkF m 33 #[.val (.ref b0), .val (.int y1), .val (.int (0 : Int32))] [(.int r93), (.int (0 : Int32)), (.int y1), (.ref b1)])
    obtain ⟨q93, rfl⟩ := q93
    obtain rfl : r93 = (1 : Int32) := q93
    refine o_callSI W93 (rm25_1 l Z a0 hw b1 y1 h0 n0 W93.le cs fm ST hfm hy k0 hk0 A1) (ow hw 106 rfl) (ow hw 107 rfl) (ow hw 73 rfl) (ow hw 108 rfl) (by decide) (argsL := [(.ref b1), (.int y1), (.int (0 : Int32)), (.int (1 : Int32))]) (S := []) (lenOf own_pd6 rfl) rfl rfl rfl (wt := 0) rfl (by decide) (by decide) (by decide) (by decide) (kk' := 0) rfl (nn' := 0) rfl own_d7_33 (pc' := 36) rfl ?_
    intro r94 T94 h94 W94 q94 z94
    obtain ⟨q94, rfl⟩ := q94
    refine o_retI W94 rfl own_d7_36 (by decide) (by decide) ?_
    exact ⟨_, rfl, q94, rfl⟩
  · exact absurd hc4 (by decide)
theorem own_ef6_1U (m : MethodId) (z0 : Addr) (z1 : Int32) : entryFrame m #[(.ref z0), (.int z1)] 2 = mkF m 0 #[.val (.ref z0), .val (.int z1)] [] := by first | (simp [entryFrame, mkF, argsToLocals, Value.category]; done) | rfl
set_option maxRecDepth 65536 in
set_option maxHeartbeats 4000000 in
theorem rm6_1U (l : Launch) (Z : State) (a0 : Array Value) (hw : ∀ d ∈ tables_1, d.before a0 Z = true) (b0 : Addr) (y1 : Int32) (h0 : Heap) (n0 : Nat) (Z0 : n0 ≤ h0.size) (hy : 0 ≤ y1.toInt ∧ y1.toInt < 128) (cs : Int32) (fm : Value) (ST : OSt Z h0 cs fm) (hcs : ¬ cs.toInt = 0) (hfm : fm.isRef = true) (k0 : Int32) (hk0 : 0 ≤ k0.toInt ∧ k0.toInt ≤ 65535) (b1 : Addr) (E0 : Exa Z h0 b0 "java/lang/String") (Fv : Fld Z h0 b0 "java/lang/String" "value" "[B" (.ref b1)) (Fc : Fld Z h0 b0 "java/lang/String" "coder" "B" (.int (1 : Int32))) (A1 : OA Z h0 b1 .byte [own_lo k0, own_hi k0]) :
    OCon l Z (⟨"java/lang/String", "indexOf", "(I)I"⟩ : MethodName) jdk_42_method_79_code 2 (some .int) [] ({ frames := 6, cells := 0, slots := 0, locals := 87 } : Room) #[(.ref b0), (.int y1)] h0 n0 (QI fun r h' => ((0 ≤ r.toInt ∧ (k0.toInt = y1.toInt)) ∨ (r.toInt < 0 ∧ ¬ (k0.toInt = y1.toInt))) ∧ h0 = h') := by
  refine OCon.mk (plainFor_of_name own_pn4) Z0 ?_
  intro p e s m below meth cd s₁ W0
  refine OF.cast (own_ef6_1U m b0 y1) ?_
  refine o_aloadN W0 own_d6_0 (v := (.ref b0)) rfl rfl (pc' := 1) rfl ?_
  refine o_iloadN W0 own_d6_1 (v := y1) rfl (pc' := 2) rfl ?_
  refine o_iconst W0 (v := (0 : Int32)) own_d6_2 rfl (pc' := 3) rfl ?_
  refine o_callV W0 E0 (rm7_1U l Z a0 hw b0 y1 h0 n0 W0.le hy cs fm ST hcs hfm k0 hk0 b1 E0 Fv Fc A1) (ow hw 36 rfl) (ow hw 37 rfl) (notFace_of_selects (args := #[]) (mvT W0.hZ (ow hw 39 rfl))) (ow hw 39 rfl) (ow hw 38 rfl) (ow hw 8 rfl) (ow hw 40 rfl) (by decide) (argsL := [(.int y1), (.int (0 : Int32))]) (S := []) (lenOf own_pd3 rfl) rfl rfl rfl (wt := 0) rfl (by decide) (by decide) (by decide) (by decide) (kk' := 0) rfl (nn' := 0) rfl own_d6_3 (pc' := 6) rfl ?_
  intro vv T95 h95 W95 q95 z95
  obtain ⟨r95, rfl, q95⟩ := q95
  show OF _ _ _ _ _ _ _ T95 (mkF m 6 #[.val (.ref b0), .val (.int y1)] [(.int r95)])
  obtain ⟨q95, rfl⟩ := q95
  refine o_retI W95 rfl own_d6_6 (by decide) (by decide) ?_
  exact ⟨_, rfl, q95, rfl⟩
theorem own_ef5_1U (m : MethodId) (z0 : Addr) : entryFrame m #[(.ref z0)] 1 = mkF m 0 #[.val (.ref z0)] [] := by first | (simp [entryFrame, mkF, argsToLocals, Value.category]; done) | rfl
set_option maxRecDepth 65536 in
set_option maxHeartbeats 4000000 in
theorem rm5_1U (l : Launch) (Z : State) (a0 : Array Value) (hw : ∀ d ∈ tables_1, d.before a0 Z = true) (b0 : Addr) (h0 : Heap) (n0 : Nat) (Z0 : n0 ≤ h0.size) (cs : Int32) (fm : Value) (ST : OSt Z h0 cs fm) (hcs : ¬ cs.toInt = 0) (hfm : fm.isRef = true) (k0 : Int32) (hk0 : 0 ≤ k0.toInt ∧ k0.toInt ≤ 65535) (b1 : Addr) (E0 : Exa Z h0 b0 "java/lang/String") (Fv : Fld Z h0 b0 "java/lang/String" "value" "[B" (.ref b1)) (Fc : Fld Z h0 b0 "java/lang/String" "coder" "B" (.int (1 : Int32))) (A1 : OA Z h0 b1 .byte [own_lo k0, own_hi k0]) :
    OCon l Z (⟨"com/example/austere_access/austereaccess/policy/Glob", "isLiteral", "(Ljava/lang/String;)Z"⟩ : MethodName) prog_39_method_2_code 1 (some .boolean) [] ({ frames := 7, cells := 0, slots := 0, locals := 100 } : Room) #[(.ref b0)] h0 n0 (QI fun r h' => ((r = 1 ∧ ¬ (k0.toInt = 42 ∨ k0.toInt = 63)) ∨ (r = 0 ∧ (k0.toInt = 42 ∨ k0.toInt = 63))) ∧ h0 = h') := by
  refine OCon.mk (plainFor_of_name own_pn5) Z0 ?_
  intro p e s m below meth cd s₁ W0
  refine OF.cast (own_ef5_1U m b0) ?_
  have c42 : (42 : Int32).toInt = 42 := rfl
  have c63 : (63 : Int32).toInt = 63 := rfl
  refine o_aloadN W0 own_d5_0 (v := (.ref b0)) rfl rfl (pc' := 1) rfl ?_
  refine o_bipush W0 (v := (42 : Int32)) own_d5_1 rfl (pc' := 3) rfl ?_
  refine o_callV W0 E0 (rm6_1U l Z a0 hw b0 (42 : Int32) h0 n0 W0.le (by decide) cs fm ST hcs hfm k0 hk0 b1 E0 Fv Fc A1) (ow hw 31 rfl) (ow hw 32 rfl) (notFace_of_selects (args := #[]) (mvT W0.hZ (ow hw 34 rfl))) (ow hw 34 rfl) (ow hw 33 rfl) (ow hw 8 rfl) (ow hw 35 rfl) (by decide) (argsL := [(.int (42 : Int32))]) (S := []) (lenOf own_pd7 rfl) rfl rfl rfl (wt := 0) rfl (by decide) (by decide) (by decide) (by decide) (kk' := 0) rfl (nn' := 0) rfl own_d5_3 (pc' := 6) rfl ?_
  intro vv T96 h96 W96 q96 z96
  obtain ⟨r96, rfl, q96⟩ := q96
  show OF _ _ _ _ _ _ _ T96 (mkF m 6 #[.val (.ref b0)] [(.int r96)])
  obtain ⟨q96, rfl⟩ := q96
  refine o_if_ge W96 own_d5_6 (by decide) (pq := 22) (by decide) (pc' := 9) rfl (fun hc6 => ?_) (fun hc6 => ?_)
  · refine o_iconst W96 (v := (0 : Int32)) own_d5_22 rfl (pc' := 23) rfl ?_
    refine o_retN W96 (t := .boolean) rfl (by simp) own_d5_23 (by decide) (by decide) ?_
    exact ⟨(0 : Int32), rfl, Or.inr ⟨rfl, by omega⟩, rfl⟩
  · refine o_aloadN W96 own_d5_9 (v := (.ref b0)) rfl rfl (pc' := 10) rfl ?_
    refine o_bipush W96 (v := (63 : Int32)) own_d5_10 rfl (pc' := 12) rfl ?_
    refine o_callV W96 E0 (rm6_1U l Z a0 hw b0 (63 : Int32) h0 n0 W96.le (by decide) cs fm ST hcs hfm k0 hk0 b1 E0 Fv Fc A1) (ow hw 31 rfl) (ow hw 32 rfl) (notFace_of_selects (args := #[]) (mvT W96.hZ (ow hw 34 rfl))) (ow hw 34 rfl) (ow hw 33 rfl) (ow hw 8 rfl) (ow hw 35 rfl) (by decide) (argsL := [(.int (63 : Int32))]) (S := []) (lenOf own_pd7 rfl) rfl rfl rfl (wt := 0) rfl (by decide) (by decide) (by decide) (by decide) (kk' := 0) rfl (nn' := 0) rfl own_d5_12 (pc' := 15) rfl ?_
    intro vv T97 h97 W97 q97 z97
    obtain ⟨r97, rfl, q97⟩ := q97
    show OF _ _ _ _ _ _ _ T97 (mkF m 15 #[.val (.ref b0)] [(.int r97)])
    obtain ⟨q97, rfl⟩ := q97
    refine o_if_ge W97 own_d5_15 (by decide) (pq := 22) (by decide) (pc' := 18) rfl (fun hc15 => ?_) (fun hc15 => ?_)
    · refine o_iconst W97 (v := (0 : Int32)) own_d5_22 rfl (pc' := 23) rfl ?_
      refine o_retN W97 (t := .boolean) rfl (by simp) own_d5_23 (by decide) (by decide) ?_
      exact ⟨(0 : Int32), rfl, Or.inr ⟨rfl, by omega⟩, rfl⟩
    · refine o_iconst W97 (v := (1 : Int32)) own_d5_18 rfl (pc' := 19) rfl ?_
      refine o_goto W97 own_d5_19 (by decide) (pq := 23) (by decide) ?_
      refine o_retN W97 (t := .boolean) rfl (by simp) own_d5_23 (by decide) (by decide) ?_
      exact ⟨(1 : Int32), rfl, Or.inl ⟨rfl, by omega⟩, rfl⟩
theorem own_ef0_1 (m : MethodId) (z0 : Int32) (z1 : Int32) (z2 : Int32) (z3 : Int32) (z4 : Int32) : entryFrame m #[(.int z0), (.int z1), (.int z2), (.int z3), (.int z4)] maxLocals = mkF m 0 #[.val (.int z0), .val (.int z1), .val (.int z2), .val (.int z3), .val (.int z4), .unset, .unset, .unset, .unset, .unset, .unset, .unset, .unset, .unset, .unset, .unset, .unset, .unset] [] := by first | (simp [entryFrame, mkF, argsToLocals, Value.category, maxLocals]; done) | rfl
theorem own_pd18 : parseMethodDescriptor "(I)C" = some ⟨[.int], some .char⟩ := by decide +kernel
theorem own_pd19 : parseMethodDescriptor "([C)V" = some ⟨[(.array .char)], none⟩ := by decide +kernel
theorem own_pd20 : parseMethodDescriptor "(C)Z" = some ⟨[.char], some .boolean⟩ := by decide +kernel
theorem own_pd21 : parseMethodDescriptor "(Ljava/lang/String;)Z" = some ⟨[(.object "java/lang/String")], some .boolean⟩ := by decide +kernel
set_option maxRecDepth 65536 in
set_option maxHeartbeats 4000000 in
theorem own_law_1 (l : Launch) (Z : State) (a0 : Array Value) (hw : ∀ d ∈ tables_1, d.before a0 Z = true) (x0 : Int32) (x1 : Int32) (x2 : Int32) (x3 : Int32) (x4 : Int32) (h0 : Heap) (n0 : Nat) (Z0 : n0 ≤ h0.size) (cs : Int32) (fm : Value) (ST : OSt Z h0 cs fm) (hcs : ¬ cs.toInt = 0) (hfm : fm.isRef = true) (hx0 : (x0 &&& 7) - (x0 &&& 7) / 5 * 5 = (1 : Int32)) :
    OCon l Z x code maxLocals ret tables_1 room_1 #[(.int x0), (.int x1), (.int x2), (.int x3), (.int x4)] h0 n0 (fun v _ => v = some (.int 1)) := by
  refine OCon.mk (plainFor_of_name own_pn0) Z0 ?_
  intro p e s m below meth cd s₁ W0
  refine OF.cast (own_ef0_1 m x0 x1 x2 x3 x4) ?_
  refine o_iloadN W0 at_0 (v := x0) rfl (pc' := 1) rfl ?_
  refine o_bipush W0 (v := (7 : Int32)) at_1 rfl (pc' := 3) rfl ?_
  refine o_iand W0 at_3 (pc' := 4) rfl ?_
  refine o_iconst W0 (v := (5 : Int32)) at_4 rfl (pc' := 5) rfl ?_
  refine o_irem W0 at_5 (by decide) (pc' := 6) rfl ?_
  rw [hx0]
  refine o_istore W0 (L' := #[.val (.int x0), .val (.int x1), .val (.int x2), .val (.int x3), .val (.int x4), .val (.int (1 : Int32)), .unset, .unset, .unset, .unset, .unset, .unset, .unset, .unset, .unset, .unset, .unset, .unset]) at_6 rfl (pc' := 8) rfl ?_
  refine o_iloadN W0 at_8 (v := x1) rfl (pc' := 9) rfl ?_
  refine o_callSI W0 (rm1 l Z a0 hw x1 h0 n0 W0.le) (ow hw 0 rfl) (ow hw 1 rfl) (ow hw 2 rfl) (ow hw 3 rfl) (by decide) (argsL := [(.int x1)]) (S := []) (lenOf own_pd18 rfl) rfl rfl rfl (wt := 0) rfl (by decide) (by decide) (by decide) (by decide) (kk' := 0) rfl (nn' := 0) rfl at_9 (pc' := 12) rfl ?_
  intro r98 T98 h98 W98 q98 z98
  obtain ⟨q98, rfl⟩ := q98
  refine o_istore W98 (L' := #[.val (.int x0), .val (.int x1), .val (.int x2), .val (.int x3), .val (.int x4), .val (.int (1 : Int32)), .val (.int r98), .unset, .unset, .unset, .unset, .unset, .unset, .unset, .unset, .unset, .unset, .unset]) at_12 rfl (pc' := 14) rfl ?_
  refine o_iloadN W98 at_14 (v := x2) rfl (pc' := 15) rfl ?_
  refine o_callSI W98 (rm1 l Z a0 hw x2 h0 n0 W98.le) (ow hw 0 rfl) (ow hw 1 rfl) (ow hw 2 rfl) (ow hw 3 rfl) (by decide) (argsL := [(.int x2)]) (S := []) (lenOf own_pd18 rfl) rfl rfl rfl (wt := 0) rfl (by decide) (by decide) (by decide) (by decide) (kk' := 0) rfl (nn' := 0) rfl at_15 (pc' := 18) rfl ?_
  intro r99 T99 h99 W99 q99 z99
  obtain ⟨q99, rfl⟩ := q99
  refine o_istore W99 (L' := #[.val (.int x0), .val (.int x1), .val (.int x2), .val (.int x3), .val (.int x4), .val (.int (1 : Int32)), .val (.int r98), .val (.int r99), .unset, .unset, .unset, .unset, .unset, .unset, .unset, .unset, .unset, .unset]) at_18 rfl (pc' := 20) rfl ?_
  refine o_iloadN W99 at_20 (v := x3) rfl (pc' := 21) rfl ?_
  refine o_callSI W99 (rm1 l Z a0 hw x3 h0 n0 W99.le) (ow hw 0 rfl) (ow hw 1 rfl) (ow hw 2 rfl) (ow hw 3 rfl) (by decide) (argsL := [(.int x3)]) (S := []) (lenOf own_pd18 rfl) rfl rfl rfl (wt := 0) rfl (by decide) (by decide) (by decide) (by decide) (kk' := 0) rfl (nn' := 0) rfl at_21 (pc' := 24) rfl ?_
  intro r100 T100 h100 W100 q100 z100
  obtain ⟨q100, rfl⟩ := q100
  refine o_istore W100 (L' := #[.val (.int x0), .val (.int x1), .val (.int x2), .val (.int x3), .val (.int x4), .val (.int (1 : Int32)), .val (.int r98), .val (.int r99), .val (.int r100), .unset, .unset, .unset, .unset, .unset, .unset, .unset, .unset, .unset]) at_24 rfl (pc' := 26) rfl ?_
  refine o_iload W100 at_26 (v := x4) rfl (pc' := 28) rfl ?_
  refine o_callSI W100 (rm1 l Z a0 hw x4 h0 n0 W100.le) (ow hw 0 rfl) (ow hw 1 rfl) (ow hw 2 rfl) (ow hw 3 rfl) (by decide) (argsL := [(.int x4)]) (S := []) (lenOf own_pd18 rfl) rfl rfl rfl (wt := 0) rfl (by decide) (by decide) (by decide) (by decide) (kk' := 0) rfl (nn' := 0) rfl at_28 (pc' := 31) rfl ?_
  intro r101 T101 h101 W101 q101 z101
  obtain ⟨q101, rfl⟩ := q101
  refine o_istore W101 (L' := #[.val (.int x0), .val (.int x1), .val (.int x2), .val (.int x3), .val (.int x4), .val (.int (1 : Int32)), .val (.int r98), .val (.int r99), .val (.int r100), .val (.int r101), .unset, .unset, .unset, .unset, .unset, .unset, .unset, .unset]) at_31 rfl (pc' := 33) rfl ?_
  refine o_iconst W101 (v := (0 : Int32)) at_33 rfl (pc' := 34) rfl ?_
  refine o_newarray W101 (ty := .char) (len := 0) (cap := 0) (ow hw 5 rfl) rfl rfl rfl at_34 (pc' := 36) rfl rfl (by decide) (by decide) (by decide) (by decide) (kk' := 1) rfl (nn' := 0) rfl ?_
  intro T103 h103 a102 W103 E103 g_a102 A_a102
  have b_a102 : n0 ≤ a102 := by rw [g_a102]; exact W101.le
  have A_a102 : OA Z h103 a102 .char [] := A_a102
  have ST_103 := ST.ext E103
  refine o_astore W103 (L' := #[.val (.int x0), .val (.int x1), .val (.int x2), .val (.int x3), .val (.int x4), .val (.int (1 : Int32)), .val (.int r98), .val (.int r99), .val (.int r100), .val (.int r101), .val (.ref a102), .unset, .unset, .unset, .unset, .unset, .unset, .unset]) at_36 rfl rfl (pc' := 38) rfl ?_
  refine o_iconst W103 (v := (1 : Int32)) at_38 rfl (pc' := 39) rfl ?_
  refine o_newarray W103 (ty := .char) (len := 1) (cap := 1) (ow hw 5 rfl) rfl rfl rfl at_39 (pc' := 41) rfl rfl (by decide) (by decide) (by decide) (by decide) (kk' := 2) rfl (nn' := 1) rfl ?_
  intro T105 h105 a104 W105 E105 g_a104 A_a104
  have b_a104 : n0 ≤ a104 := by rw [g_a104]; exact W103.le
  have ne_a102_a104 : a102 ≠ a104 := Nat.ne_of_lt (Nat.lt_of_lt_of_le A_a102.lt (Nat.le_of_eq g_a104.symm))
  have A_a102_105 := A_a102.ext E105
  have A_a104 : OA Z h105 a104 .char [0] := A_a104
  have ST_105 := ST_103.ext E105
  refine o_dup W105 at_41 rfl (pc' := 42) rfl ?_
  refine o_iconst W105 (v := (0 : Int32)) at_42 rfl (pc' := 43) rfl ?_
  refine o_iload W105 at_43 (v := r98) rfl (pc' := 45) rfl ?_
  refine o_castore W105 A_a104 b_a104 at_45 (pc' := 46) rfl (i := 0) rfl (Nat.le_of_ble_eq_true rfl) ?_
  intro T106 h106 W106 K106 A_a104_106
  have A_a102_106 := A_a102_105.keep1 K106 ne_a102_a104
  have ST_106 := ST_105.keepA A_a104 K106
  have A_a104_106 : OA Z h106 a104 .char [(r98.toUInt32.toUInt16.toUInt32.toInt32)] := A_a104_106
  refine o_astore W106 (L' := #[.val (.int x0), .val (.int x1), .val (.int x2), .val (.int x3), .val (.int x4), .val (.int (1 : Int32)), .val (.int r98), .val (.int r99), .val (.int r100), .val (.int r101), .val (.ref a102), .val (.ref a104), .unset, .unset, .unset, .unset, .unset, .unset]) at_46 rfl rfl (pc' := 48) rfl ?_
  refine o_iconst W106 (v := (2 : Int32)) at_48 rfl (pc' := 49) rfl ?_
  refine o_newarray W106 (ty := .char) (len := 2) (cap := 2) (ow hw 5 rfl) rfl rfl rfl at_49 (pc' := 51) rfl rfl (by decide) (by decide) (by decide) (by decide) (kk' := 3) rfl (nn' := 3) rfl ?_
  intro T108 h108 a107 W108 E108 g_a107 A_a107
  have b_a107 : n0 ≤ a107 := by rw [g_a107]; exact W106.le
  have ne_a102_a107 : a102 ≠ a107 := Nat.ne_of_lt (Nat.lt_of_lt_of_le A_a102_106.lt (Nat.le_of_eq g_a107.symm))
  have A_a102_108 := A_a102_106.ext E108
  have ne_a104_a107 : a104 ≠ a107 := Nat.ne_of_lt (Nat.lt_of_lt_of_le A_a104_106.lt (Nat.le_of_eq g_a107.symm))
  have A_a104_108 := A_a104_106.ext E108
  have A_a107 : OA Z h108 a107 .char [0, 0] := A_a107
  have ST_108 := ST_106.ext E108
  refine o_dup W108 at_51 rfl (pc' := 52) rfl ?_
  refine o_iconst W108 (v := (0 : Int32)) at_52 rfl (pc' := 53) rfl ?_
  refine o_iload W108 at_53 (v := r98) rfl (pc' := 55) rfl ?_
  refine o_castore W108 A_a107 b_a107 at_55 (pc' := 56) rfl (i := 0) rfl (Nat.le_of_ble_eq_true rfl) ?_
  intro T109 h109 W109 K109 A_a107_109
  have A_a102_109 := A_a102_108.keep1 K109 ne_a102_a107
  have A_a104_109 := A_a104_108.keep1 K109 ne_a104_a107
  have ST_109 := ST_108.keepA A_a107 K109
  have A_a107_109 : OA Z h109 a107 .char [(r98.toUInt32.toUInt16.toUInt32.toInt32), 0] := A_a107_109
  refine o_dup W109 at_56 rfl (pc' := 57) rfl ?_
  refine o_iconst W109 (v := (1 : Int32)) at_57 rfl (pc' := 58) rfl ?_
  refine o_iload W109 at_58 (v := r99) rfl (pc' := 60) rfl ?_
  refine o_castore W109 A_a107_109 b_a107 at_60 (pc' := 61) rfl (i := 1) rfl (Nat.le_of_ble_eq_true rfl) ?_
  intro T110 h110 W110 K110 A_a107_110
  have A_a102_110 := A_a102_109.keep1 K110 ne_a102_a107
  have A_a104_110 := A_a104_109.keep1 K110 ne_a104_a107
  have ST_110 := ST_109.keepA A_a107_109 K110
  have A_a107_110 : OA Z h110 a107 .char [(r98.toUInt32.toUInt16.toUInt32.toInt32), (r99.toUInt32.toUInt16.toUInt32.toInt32)] := A_a107_110
  refine o_astore W110 (L' := #[.val (.int x0), .val (.int x1), .val (.int x2), .val (.int x3), .val (.int x4), .val (.int (1 : Int32)), .val (.int r98), .val (.int r99), .val (.int r100), .val (.int r101), .val (.ref a102), .val (.ref a104), .val (.ref a107), .unset, .unset, .unset, .unset, .unset]) at_61 rfl rfl (pc' := 63) rfl ?_
  refine o_iconst W110 (v := (3 : Int32)) at_63 rfl (pc' := 64) rfl ?_
  refine o_newarray W110 (ty := .char) (len := 3) (cap := 3) (ow hw 5 rfl) rfl rfl rfl at_64 (pc' := 66) rfl rfl (by decide) (by decide) (by decide) (by decide) (kk' := 4) rfl (nn' := 6) rfl ?_
  intro T112 h112 a111 W112 E112 g_a111 A_a111
  have b_a111 : n0 ≤ a111 := by rw [g_a111]; exact W110.le
  have ne_a102_a111 : a102 ≠ a111 := Nat.ne_of_lt (Nat.lt_of_lt_of_le A_a102_110.lt (Nat.le_of_eq g_a111.symm))
  have A_a102_112 := A_a102_110.ext E112
  have ne_a104_a111 : a104 ≠ a111 := Nat.ne_of_lt (Nat.lt_of_lt_of_le A_a104_110.lt (Nat.le_of_eq g_a111.symm))
  have A_a104_112 := A_a104_110.ext E112
  have ne_a107_a111 : a107 ≠ a111 := Nat.ne_of_lt (Nat.lt_of_lt_of_le A_a107_110.lt (Nat.le_of_eq g_a111.symm))
  have A_a107_112 := A_a107_110.ext E112
  have A_a111 : OA Z h112 a111 .char [0, 0, 0] := A_a111
  have ST_112 := ST_110.ext E112
  refine o_dup W112 at_66 rfl (pc' := 67) rfl ?_
  refine o_iconst W112 (v := (0 : Int32)) at_67 rfl (pc' := 68) rfl ?_
  refine o_iload W112 at_68 (v := r98) rfl (pc' := 70) rfl ?_
  refine o_castore W112 A_a111 b_a111 at_70 (pc' := 71) rfl (i := 0) rfl (Nat.le_of_ble_eq_true rfl) ?_
  intro T113 h113 W113 K113 A_a111_113
  have A_a102_113 := A_a102_112.keep1 K113 ne_a102_a111
  have A_a104_113 := A_a104_112.keep1 K113 ne_a104_a111
  have A_a107_113 := A_a107_112.keep1 K113 ne_a107_a111
  have ST_113 := ST_112.keepA A_a111 K113
  have A_a111_113 : OA Z h113 a111 .char [(r98.toUInt32.toUInt16.toUInt32.toInt32), 0, 0] := A_a111_113
  refine o_dup W113 at_71 rfl (pc' := 72) rfl ?_
  refine o_iconst W113 (v := (1 : Int32)) at_72 rfl (pc' := 73) rfl ?_
  refine o_iload W113 at_73 (v := r99) rfl (pc' := 75) rfl ?_
  refine o_castore W113 A_a111_113 b_a111 at_75 (pc' := 76) rfl (i := 1) rfl (Nat.le_of_ble_eq_true rfl) ?_
  intro T114 h114 W114 K114 A_a111_114
  have A_a102_114 := A_a102_113.keep1 K114 ne_a102_a111
  have A_a104_114 := A_a104_113.keep1 K114 ne_a104_a111
  have A_a107_114 := A_a107_113.keep1 K114 ne_a107_a111
  have ST_114 := ST_113.keepA A_a111_113 K114
  have A_a111_114 : OA Z h114 a111 .char [(r98.toUInt32.toUInt16.toUInt32.toInt32), (r99.toUInt32.toUInt16.toUInt32.toInt32), 0] := A_a111_114
  refine o_dup W114 at_76 rfl (pc' := 77) rfl ?_
  refine o_iconst W114 (v := (2 : Int32)) at_77 rfl (pc' := 78) rfl ?_
  refine o_iload W114 at_78 (v := r100) rfl (pc' := 80) rfl ?_
  refine o_castore W114 A_a111_114 b_a111 at_80 (pc' := 81) rfl (i := 2) rfl (Nat.le_of_ble_eq_true rfl) ?_
  intro T115 h115 W115 K115 A_a111_115
  have A_a102_115 := A_a102_114.keep1 K115 ne_a102_a111
  have A_a104_115 := A_a104_114.keep1 K115 ne_a104_a111
  have A_a107_115 := A_a107_114.keep1 K115 ne_a107_a111
  have ST_115 := ST_114.keepA A_a111_114 K115
  have A_a111_115 : OA Z h115 a111 .char [(r98.toUInt32.toUInt16.toUInt32.toInt32), (r99.toUInt32.toUInt16.toUInt32.toInt32), (r100.toUInt32.toUInt16.toUInt32.toInt32)] := A_a111_115
  refine o_astore W115 (L' := #[.val (.int x0), .val (.int x1), .val (.int x2), .val (.int x3), .val (.int x4), .val (.int (1 : Int32)), .val (.int r98), .val (.int r99), .val (.int r100), .val (.int r101), .val (.ref a102), .val (.ref a104), .val (.ref a107), .val (.ref a111), .unset, .unset, .unset, .unset]) at_81 rfl rfl (pc' := 83) rfl ?_
  refine o_iconst W115 (v := (4 : Int32)) at_83 rfl (pc' := 84) rfl ?_
  refine o_newarray W115 (ty := .char) (len := 4) (cap := 4) (ow hw 5 rfl) rfl rfl rfl at_84 (pc' := 86) rfl rfl (by decide) (by decide) (by decide) (by decide) (kk' := 5) rfl (nn' := 10) rfl ?_
  intro T117 h117 a116 W117 E117 g_a116 A_a116
  have b_a116 : n0 ≤ a116 := by rw [g_a116]; exact W115.le
  have ne_a102_a116 : a102 ≠ a116 := Nat.ne_of_lt (Nat.lt_of_lt_of_le A_a102_115.lt (Nat.le_of_eq g_a116.symm))
  have A_a102_117 := A_a102_115.ext E117
  have ne_a104_a116 : a104 ≠ a116 := Nat.ne_of_lt (Nat.lt_of_lt_of_le A_a104_115.lt (Nat.le_of_eq g_a116.symm))
  have A_a104_117 := A_a104_115.ext E117
  have ne_a107_a116 : a107 ≠ a116 := Nat.ne_of_lt (Nat.lt_of_lt_of_le A_a107_115.lt (Nat.le_of_eq g_a116.symm))
  have A_a107_117 := A_a107_115.ext E117
  have ne_a111_a116 : a111 ≠ a116 := Nat.ne_of_lt (Nat.lt_of_lt_of_le A_a111_115.lt (Nat.le_of_eq g_a116.symm))
  have A_a111_117 := A_a111_115.ext E117
  have A_a116 : OA Z h117 a116 .char [0, 0, 0, 0] := A_a116
  have ST_117 := ST_115.ext E117
  refine o_dup W117 at_86 rfl (pc' := 87) rfl ?_
  refine o_iconst W117 (v := (0 : Int32)) at_87 rfl (pc' := 88) rfl ?_
  refine o_iload W117 at_88 (v := r98) rfl (pc' := 90) rfl ?_
  refine o_castore W117 A_a116 b_a116 at_90 (pc' := 91) rfl (i := 0) rfl (Nat.le_of_ble_eq_true rfl) ?_
  intro T118 h118 W118 K118 A_a116_118
  have A_a102_118 := A_a102_117.keep1 K118 ne_a102_a116
  have A_a104_118 := A_a104_117.keep1 K118 ne_a104_a116
  have A_a107_118 := A_a107_117.keep1 K118 ne_a107_a116
  have A_a111_118 := A_a111_117.keep1 K118 ne_a111_a116
  have ST_118 := ST_117.keepA A_a116 K118
  have A_a116_118 : OA Z h118 a116 .char [(r98.toUInt32.toUInt16.toUInt32.toInt32), 0, 0, 0] := A_a116_118
  refine o_dup W118 at_91 rfl (pc' := 92) rfl ?_
  refine o_iconst W118 (v := (1 : Int32)) at_92 rfl (pc' := 93) rfl ?_
  refine o_iload W118 at_93 (v := r99) rfl (pc' := 95) rfl ?_
  refine o_castore W118 A_a116_118 b_a116 at_95 (pc' := 96) rfl (i := 1) rfl (Nat.le_of_ble_eq_true rfl) ?_
  intro T119 h119 W119 K119 A_a116_119
  have A_a102_119 := A_a102_118.keep1 K119 ne_a102_a116
  have A_a104_119 := A_a104_118.keep1 K119 ne_a104_a116
  have A_a107_119 := A_a107_118.keep1 K119 ne_a107_a116
  have A_a111_119 := A_a111_118.keep1 K119 ne_a111_a116
  have ST_119 := ST_118.keepA A_a116_118 K119
  have A_a116_119 : OA Z h119 a116 .char [(r98.toUInt32.toUInt16.toUInt32.toInt32), (r99.toUInt32.toUInt16.toUInt32.toInt32), 0, 0] := A_a116_119
  refine o_dup W119 at_96 rfl (pc' := 97) rfl ?_
  refine o_iconst W119 (v := (2 : Int32)) at_97 rfl (pc' := 98) rfl ?_
  refine o_iload W119 at_98 (v := r100) rfl (pc' := 100) rfl ?_
  refine o_castore W119 A_a116_119 b_a116 at_100 (pc' := 101) rfl (i := 2) rfl (Nat.le_of_ble_eq_true rfl) ?_
  intro T120 h120 W120 K120 A_a116_120
  have A_a102_120 := A_a102_119.keep1 K120 ne_a102_a116
  have A_a104_120 := A_a104_119.keep1 K120 ne_a104_a116
  have A_a107_120 := A_a107_119.keep1 K120 ne_a107_a116
  have A_a111_120 := A_a111_119.keep1 K120 ne_a111_a116
  have ST_120 := ST_119.keepA A_a116_119 K120
  have A_a116_120 : OA Z h120 a116 .char [(r98.toUInt32.toUInt16.toUInt32.toInt32), (r99.toUInt32.toUInt16.toUInt32.toInt32), (r100.toUInt32.toUInt16.toUInt32.toInt32), 0] := A_a116_120
  refine o_dup W120 at_101 rfl (pc' := 102) rfl ?_
  refine o_iconst W120 (v := (3 : Int32)) at_102 rfl (pc' := 103) rfl ?_
  refine o_iload W120 at_103 (v := r101) rfl (pc' := 105) rfl ?_
  refine o_castore W120 A_a116_120 b_a116 at_105 (pc' := 106) rfl (i := 3) rfl (Nat.le_of_ble_eq_true rfl) ?_
  intro T121 h121 W121 K121 A_a116_121
  have A_a102_121 := A_a102_120.keep1 K121 ne_a102_a116
  have A_a104_121 := A_a104_120.keep1 K121 ne_a104_a116
  have A_a107_121 := A_a107_120.keep1 K121 ne_a107_a116
  have A_a111_121 := A_a111_120.keep1 K121 ne_a111_a116
  have ST_121 := ST_120.keepA A_a116_120 K121
  have A_a116_121 : OA Z h121 a116 .char [(r98.toUInt32.toUInt16.toUInt32.toInt32), (r99.toUInt32.toUInt16.toUInt32.toInt32), (r100.toUInt32.toUInt16.toUInt32.toInt32), (r101.toUInt32.toUInt16.toUInt32.toInt32)] := A_a116_121
  refine o_astore W121 (L' := #[.val (.int x0), .val (.int x1), .val (.int x2), .val (.int x3), .val (.int x4), .val (.int (1 : Int32)), .val (.int r98), .val (.int r99), .val (.int r100), .val (.int r101), .val (.ref a102), .val (.ref a104), .val (.ref a107), .val (.ref a111), .val (.ref a116), .unset, .unset, .unset]) at_106 rfl rfl (pc' := 108) rfl ?_
  have ACH : OA Z h121 a104 .char [r98] := by
    have q := A_a104_121
    rw [own_i2c q98.1 q98.2] at q
    exact q
  refine o_iload W121 at_108 (v := (1 : Int32)) rfl (pc' := 110) rfl ?_
  refine o_if_ne W121 at_110 (by decide) (pq := 120) (by decide) (pc' := 113) rfl (fun hc110 => ?_) (fun hc110 => ?_)
  · refine o_iload W121 at_120 (v := (1 : Int32)) rfl (pc' := 122) rfl ?_
    refine o_iconst W121 (v := (1 : Int32)) at_122 rfl (pc' := 123) rfl ?_
    refine o_icmp_ne W121 at_123 (by decide) (pq := 133) (by decide) (pc' := 126) rfl (fun hc123 => ?_) (fun hc123 => ?_)
    · exact absurd hc123 (by decide)
    · refine o_aload W121 at_126 (v := (.ref a104)) rfl rfl (pc' := 128) rfl ?_
      refine o_astore W121 (L' := #[.val (.int x0), .val (.int x1), .val (.int x2), .val (.int x3), .val (.int x4), .val (.int (1 : Int32)), .val (.int r98), .val (.int r99), .val (.int r100), .val (.int r101), .val (.ref a102), .val (.ref a104), .val (.ref a107), .val (.ref a111), .val (.ref a116), .val (.ref a104), .unset, .unset]) at_128 rfl rfl (pc' := 130) rfl ?_
      refine o_goto W121 at_130 (by decide) (pq := 163) (by decide) ?_
      refine o_new W121 (ow hw 6 rfl) (ow hw 7 rfl) (ow hw 8 rfl) at_163 (pc' := 166) rfl (by decide) (by decide) (kk' := 6) rfl (nn' := 14) rfl ?_
      intro T123 h123 a122 W123 E123 g_a122 X_a122 D_a122
      have b_a122 : n0 ≤ a122 := by rw [g_a122]; exact W121.le
      have ne_a104_a122 : a104 ≠ a122 := Nat.ne_of_lt (Nat.lt_of_lt_of_le ACH.lt (Nat.le_of_eq g_a122.symm))
      have A_a104_123 := ACH.ext E123
      have ST_123 := ST_121.ext E123
      have F_value_a122 : Fld Z h123 a122 "java/lang/String" "value" "[B" .null := D_a122 (Or.inr (ow hw 21 rfl)) (ty := (.array .byte)) (by decide)
      have F_coder_a122 : Fld Z h123 a122 "java/lang/String" "coder" "B" (.int (0 : Int32)) := D_a122 (Or.inr (ow hw 22 rfl)) (ty := .byte) (by decide)
      refine o_dup W123 at_166 rfl (pc' := 167) rfl ?_
      refine o_aload W123 at_167 (v := (.ref a104)) rfl rfl (pc' := 169) rfl ?_
      refine o_callC W123 (rm2_1 l Z a0 hw a122 a104 h123 n0 W123.le cs fm ST_123 hcs r98 q98 A_a104_123 X_a122 F_value_a122 F_coder_a122 b_a122) rfl (ow hw 9 rfl) (ow hw 10 rfl) (ow hw 8 rfl) (ow hw 11 rfl) (by decide) (argsL := [(.ref a104)]) (S := [(.ref a122)]) (lenOf own_pd19 rfl) rfl rfl rfl (wt := 1) rfl (by decide) (by decide) (by decide) (by decide) (kk' := 8) rfl (nn' := 17) rfl at_169 (pc' := 172) rfl ?_
      intro T124 h124 W124 q124 z124
      obtain ⟨XS, KS, ST_124, rb, FV, q124⟩ := q124
      rcases q124 with ⟨hall, FC, AR⟩ | ⟨FC, AR⟩
      · refine o_astore W124 (L' := #[.val (.int x0), .val (.int x1), .val (.int x2), .val (.int x3), .val (.int x4), .val (.int (1 : Int32)), .val (.int r98), .val (.int r99), .val (.int r100), .val (.int r101), .val (.ref a102), .val (.ref a104), .val (.ref a107), .val (.ref a111), .val (.ref a116), .val (.ref a104), .val (.ref a122), .unset]) at_172 rfl rfl (pc' := 174) rfl ?_
        refine o_iconst W124 (v := (1 : Int32)) at_174 rfl (pc' := 175) rfl ?_
        refine o_istore W124 (L' := #[.val (.int x0), .val (.int x1), .val (.int x2), .val (.int x3), .val (.int x4), .val (.int (1 : Int32)), .val (.int r98), .val (.int r99), .val (.int r100), .val (.int r101), .val (.ref a102), .val (.ref a104), .val (.ref a107), .val (.ref a111), .val (.ref a116), .val (.ref a104), .val (.ref a122), .val (.int (1 : Int32))]) at_175 rfl (pc' := 177) rfl ?_
        refine o_iload W124 at_177 (v := (1 : Int32)) rfl (pc' := 179) rfl ?_
        refine o_if_le W124 at_179 (by decide) (pq := 193) (by decide) (pc' := 182) rfl (fun hc179 => ?_) (fun hc179 => ?_)
        · exact absurd hc179 (by decide)
        · refine o_iload W124 at_182 (v := r98) rfl (pc' := 184) rfl ?_
          refine o_callSI W124 (rm18 l Z a0 hw r98 h124 n0 W124.le) (ow hw 81 rfl) (ow hw 82 rfl) (ow hw 2 rfl) (ow hw 83 rfl) (by decide) (argsL := [(.int r98)]) (S := []) (lenOf own_pd20 rfl) rfl rfl rfl (wt := 0) rfl (by decide) (by decide) (by decide) (by decide) (kk' := 8) rfl (nn' := 17) rfl at_184 (pc' := 187) rfl ?_
          intro r125 T125 h125 W125 q125 z125
          obtain ⟨q125, rfl⟩ := q125
          refine OF.join (fun j126 : Int32 => (j126.toInt = 1 ∧ ¬ (r98.toInt = 42 ∨ r98.toInt = 63)) ∨ (j126.toInt = 0 ∧ (r98.toInt = 42 ∨ r98.toInt = 63))) (fun _ => T125) (fun j126 => mkF m 193 #[.val (.int x0), .val (.int x1), .val (.int x2), .val (.int x3), .val (.int x4), .val (.int (1 : Int32)), .val (.int r98), .val (.int r99), .val (.int r100), .val (.int r101), .val (.ref a102), .val (.ref a104), .val (.ref a107), .val (.ref a111), .val (.ref a116), .val (.ref a104), .val (.ref a122), .val (.int j126)] []) (fun j126 hj126 => ?_) (fun k_j126 => ?_)
          · refine o_iload W125 at_193 (v := (1 : Int32)) rfl (pc' := 195) rfl ?_
            refine o_iconst W125 (v := (1 : Int32)) at_195 rfl (pc' := 196) rfl ?_
            refine o_icmp_le W125 at_196 (by decide) (pq := 210) (by decide) (pc' := 199) rfl (fun hc196 => ?_) (fun hc196 => ?_)
            · refine o_iload W125 at_210 (v := (1 : Int32)) rfl (pc' := 212) rfl ?_
              refine o_iconst W125 (v := (2 : Int32)) at_212 rfl (pc' := 213) rfl ?_
              refine o_icmp_le W125 at_213 (by decide) (pq := 227) (by decide) (pc' := 216) rfl (fun hc213 => ?_) (fun hc213 => ?_)
              · refine o_iload W125 at_227 (v := (1 : Int32)) rfl (pc' := 229) rfl ?_
                refine o_iconst W125 (v := (3 : Int32)) at_229 rfl (pc' := 230) rfl ?_
                refine o_icmp_le W125 at_230 (by decide) (pq := 244) (by decide) (pc' := 233) rfl (fun hc230 => ?_) (fun hc230 => ?_)
                · refine o_aload W125 at_244 (v := (.ref a122)) rfl rfl (pc' := 246) rfl ?_
                  refine o_callSI W125 (rm5_1L l Z a0 hw a122 h124 n0 W125.le cs fm ST_124 hcs hfm r98 q98 hall rb XS FV FC AR) (ow hw 27 rfl) (ow hw 28 rfl) (ow hw 29 rfl) (ow hw 30 rfl) (by decide) (argsL := [(.ref a122)]) (S := []) (lenOf own_pd21 rfl) rfl rfl rfl (wt := 0) rfl (by decide) (by decide) (by decide) (by decide) (kk' := 8) rfl (nn' := 17) rfl at_246 (pc' := 249) rfl ?_
                  intro r127 T127 h127 W127 q127 z127
                  obtain ⟨q127, rfl⟩ := q127
                  refine o_iload W127 at_249 (v := j126) rfl (pc' := 251) rfl ?_
                  refine o_icmp_ne W127 at_251 (by decide) (pq := 258) (by decide) (pc' := 254) rfl (fun hc251 => ?_) (fun hc251 => ?_)
                  · exfalso
                    have c0 : (0 : Int32).toInt = 0 := rfl
                    have c1 : (1 : Int32).toInt = 1 := rfl
                    rcases q127 with ⟨rfl, u⟩ | ⟨rfl, u⟩ <;> omega
                  · refine o_iconst W127 (v := (1 : Int32)) at_254 rfl (pc' := 255) rfl ?_
                    refine o_goto W127 at_255 (by decide) (pq := 259) (by decide) ?_
                    refine o_retN W127 (t := .boolean) rfl (by simp) at_259 (by decide) (by decide) ?_
                    exact rfl
                · exact absurd hc230 (by decide)
              · exact absurd hc213 (by decide)
            · exact absurd hc196 (by decide)
          refine o_if_eq W125 at_187 (by decide) (pq := 193) (by decide) (pc' := 190) rfl (fun hc187 => ?_) (fun hc187 => ?_)
          · exact k_j126 (1 : Int32) (by have c0 : (0 : Int32).toInt = 0 := rfl; have c1 : (1 : Int32).toInt = 1 := rfl; rcases q125 with ⟨rfl, u⟩ | ⟨rfl, u⟩ <;> omega)
          · refine o_iconst W125 (v := (0 : Int32)) at_190 rfl (pc' := 191) rfl ?_
            refine o_istore W125 (L' := #[.val (.int x0), .val (.int x1), .val (.int x2), .val (.int x3), .val (.int x4), .val (.int (1 : Int32)), .val (.int r98), .val (.int r99), .val (.int r100), .val (.int r101), .val (.ref a102), .val (.ref a104), .val (.ref a107), .val (.ref a111), .val (.ref a116), .val (.ref a104), .val (.ref a122), .val (.int (0 : Int32))]) at_191 rfl (pc' := 193) rfl ?_
            exact k_j126 (0 : Int32) (by have c0 : (0 : Int32).toInt = 0 := rfl; have c1 : (1 : Int32).toInt = 1 := rfl; rcases q125 with ⟨rfl, u⟩ | ⟨rfl, u⟩ <;> omega)
      · refine o_astore W124 (L' := #[.val (.int x0), .val (.int x1), .val (.int x2), .val (.int x3), .val (.int x4), .val (.int (1 : Int32)), .val (.int r98), .val (.int r99), .val (.int r100), .val (.int r101), .val (.ref a102), .val (.ref a104), .val (.ref a107), .val (.ref a111), .val (.ref a116), .val (.ref a104), .val (.ref a122), .unset]) at_172 rfl rfl (pc' := 174) rfl ?_
        refine o_iconst W124 (v := (1 : Int32)) at_174 rfl (pc' := 175) rfl ?_
        refine o_istore W124 (L' := #[.val (.int x0), .val (.int x1), .val (.int x2), .val (.int x3), .val (.int x4), .val (.int (1 : Int32)), .val (.int r98), .val (.int r99), .val (.int r100), .val (.int r101), .val (.ref a102), .val (.ref a104), .val (.ref a107), .val (.ref a111), .val (.ref a116), .val (.ref a104), .val (.ref a122), .val (.int (1 : Int32))]) at_175 rfl (pc' := 177) rfl ?_
        refine o_iload W124 at_177 (v := (1 : Int32)) rfl (pc' := 179) rfl ?_
        refine o_if_le W124 at_179 (by decide) (pq := 193) (by decide) (pc' := 182) rfl (fun hc179 => ?_) (fun hc179 => ?_)
        · exact absurd hc179 (by decide)
        · refine o_iload W124 at_182 (v := r98) rfl (pc' := 184) rfl ?_
          refine o_callSI W124 (rm18 l Z a0 hw r98 h124 n0 W124.le) (ow hw 81 rfl) (ow hw 82 rfl) (ow hw 2 rfl) (ow hw 83 rfl) (by decide) (argsL := [(.int r98)]) (S := []) (lenOf own_pd20 rfl) rfl rfl rfl (wt := 0) rfl (by decide) (by decide) (by decide) (by decide) (kk' := 8) rfl (nn' := 17) rfl at_184 (pc' := 187) rfl ?_
          intro r128 T128 h128 W128 q128 z128
          obtain ⟨q128, rfl⟩ := q128
          refine OF.join (fun j129 : Int32 => (j129.toInt = 1 ∧ ¬ (r98.toInt = 42 ∨ r98.toInt = 63)) ∨ (j129.toInt = 0 ∧ (r98.toInt = 42 ∨ r98.toInt = 63))) (fun _ => T128) (fun j129 => mkF m 193 #[.val (.int x0), .val (.int x1), .val (.int x2), .val (.int x3), .val (.int x4), .val (.int (1 : Int32)), .val (.int r98), .val (.int r99), .val (.int r100), .val (.int r101), .val (.ref a102), .val (.ref a104), .val (.ref a107), .val (.ref a111), .val (.ref a116), .val (.ref a104), .val (.ref a122), .val (.int j129)] []) (fun j129 hj129 => ?_) (fun k_j129 => ?_)
          · refine o_iload W128 at_193 (v := (1 : Int32)) rfl (pc' := 195) rfl ?_
            refine o_iconst W128 (v := (1 : Int32)) at_195 rfl (pc' := 196) rfl ?_
            refine o_icmp_le W128 at_196 (by decide) (pq := 210) (by decide) (pc' := 199) rfl (fun hc196 => ?_) (fun hc196 => ?_)
            · refine o_iload W128 at_210 (v := (1 : Int32)) rfl (pc' := 212) rfl ?_
              refine o_iconst W128 (v := (2 : Int32)) at_212 rfl (pc' := 213) rfl ?_
              refine o_icmp_le W128 at_213 (by decide) (pq := 227) (by decide) (pc' := 216) rfl (fun hc213 => ?_) (fun hc213 => ?_)
              · refine o_iload W128 at_227 (v := (1 : Int32)) rfl (pc' := 229) rfl ?_
                refine o_iconst W128 (v := (3 : Int32)) at_229 rfl (pc' := 230) rfl ?_
                refine o_icmp_le W128 at_230 (by decide) (pq := 244) (by decide) (pc' := 233) rfl (fun hc230 => ?_) (fun hc230 => ?_)
                · refine o_aload W128 at_244 (v := (.ref a122)) rfl rfl (pc' := 246) rfl ?_
                  refine o_callSI W128 (rm5_1U l Z a0 hw a122 h124 n0 W128.le cs fm ST_124 hcs hfm r98 q98 rb XS FV FC AR) (ow hw 27 rfl) (ow hw 28 rfl) (ow hw 29 rfl) (ow hw 30 rfl) (by decide) (argsL := [(.ref a122)]) (S := []) (lenOf own_pd21 rfl) rfl rfl rfl (wt := 0) rfl (by decide) (by decide) (by decide) (by decide) (kk' := 8) rfl (nn' := 17) rfl at_246 (pc' := 249) rfl ?_
                  intro r130 T130 h130 W130 q130 z130
                  obtain ⟨q130, rfl⟩ := q130
                  refine o_iload W130 at_249 (v := j129) rfl (pc' := 251) rfl ?_
                  refine o_icmp_ne W130 at_251 (by decide) (pq := 258) (by decide) (pc' := 254) rfl (fun hc251 => ?_) (fun hc251 => ?_)
                  · exfalso
                    have c0 : (0 : Int32).toInt = 0 := rfl
                    have c1 : (1 : Int32).toInt = 1 := rfl
                    rcases q130 with ⟨rfl, u⟩ | ⟨rfl, u⟩ <;> omega
                  · refine o_iconst W130 (v := (1 : Int32)) at_254 rfl (pc' := 255) rfl ?_
                    refine o_goto W130 at_255 (by decide) (pq := 259) (by decide) ?_
                    refine o_retN W130 (t := .boolean) rfl (by simp) at_259 (by decide) (by decide) ?_
                    exact rfl
                · exact absurd hc230 (by decide)
              · exact absurd hc213 (by decide)
            · exact absurd hc196 (by decide)
          refine o_if_eq W128 at_187 (by decide) (pq := 193) (by decide) (pc' := 190) rfl (fun hc187 => ?_) (fun hc187 => ?_)
          · exact k_j129 (1 : Int32) (by have c0 : (0 : Int32).toInt = 0 := rfl; have c1 : (1 : Int32).toInt = 1 := rfl; rcases q128 with ⟨rfl, u⟩ | ⟨rfl, u⟩ <;> omega)
          · refine o_iconst W128 (v := (0 : Int32)) at_190 rfl (pc' := 191) rfl ?_
            refine o_istore W128 (L' := #[.val (.int x0), .val (.int x1), .val (.int x2), .val (.int x3), .val (.int x4), .val (.int (1 : Int32)), .val (.int r98), .val (.int r99), .val (.int r100), .val (.int r101), .val (.ref a102), .val (.ref a104), .val (.ref a107), .val (.ref a111), .val (.ref a116), .val (.ref a104), .val (.ref a122), .val (.int (0 : Int32))]) at_191 rfl (pc' := 193) rfl ?_
            exact k_j129 (0 : Int32) (by have c0 : (0 : Int32).toInt = 0 := rfl; have c1 : (1 : Int32).toInt = 1 := rfl; rcases q128 with ⟨rfl, u⟩ | ⟨rfl, u⟩ <;> omega)
  · exact absurd hc110 (by decide)
theorem own_ef16_2 (m : MethodId) (z0 : Addr) (z1 : Int32) (z2 : Addr) (z3 : Int32) (z4 : Int32) : entryFrame m #[(.ref z0), (.int z1), (.ref z2), (.int z3), (.int z4)] 7 = mkF m 0 #[.val (.ref z0), .val (.int z1), .val (.ref z2), .val (.int z3), .val (.int z4), .unset, .unset] [] := by first | (simp [entryFrame, mkF, argsToLocals, Value.category]; done) | rfl
set_option maxRecDepth 65536 in
set_option maxHeartbeats 4000000 in
theorem rm16_2 (l : Launch) (Z : State) (a0 : Array Value) (hw : ∀ d ∈ tables_1, d.before a0 Z = true) (b0 b1 : Addr) (h0 : Heap) (n0 : Nat) (Z0 : n0 ≤ h0.size) (cs : Int32) (fm : Value) (ST : OSt Z h0 cs fm) (k0 k1 : Int32) (hk0 : 0 ≤ k0.toInt ∧ k0.toInt ≤ 65535) (hk1 : 0 ≤ k1.toInt ∧ k1.toInt ≤ 65535) (A0 : OA Z h0 b0 .char [k0, k1]) (A1 : OA Z h0 b1 .byte [0, 0]) (g1 : n0 ≤ b1) (ne_b0_b1 : b0 ≠ b1) :
    OCon l Z (⟨"java/lang/StringUTF16", "compress", "([CI[BII)I"⟩ : MethodName) jdk_52_method_21_code 7 (some .int) [] ({ frames := 0, cells := 0, slots := 0, locals := 0 } : Room) #[(.ref b0), (.int (0 : Int32)), (.ref b1), (.int (0 : Int32)), (.int (2 : Int32))] h0 n0 (QI fun r h' => Keep h0 h' [b1] ∧ OSt Z h' cs fm ∧ ((r = (0 : Int32) ∧ 255 < k0.toInt) ∨ (r = (1 : Int32) ∧ 255 < k1.toInt) ∨ (r = (2 : Int32) ∧ (k0.toInt ≤ 255 ∧ k1.toInt ≤ 255) ∧ OA Z h' b1 .byte [own_b k0, own_b k1]))) := by
  refine OCon.mk (plainFor_of_name own_pn2) Z0 ?_
  intro p e s m below meth cd s₁ W0
  refine OF.cast (own_ef16_2 m b0 (0 : Int32) b1 (0 : Int32) (2 : Int32)) ?_
  have c_0___Int32_ : (0 : Int32).toInt = 0 := rfl
  have c_1___Int32_ : (1 : Int32).toInt = 1 := rfl
  have c_2___Int32_ : (2 : Int32).toInt = 2 := rfl
  have c_255___Int32_ : (255 : Int32).toInt = 255 := rfl
  refine o_iconst W0 (v := (0 : Int32)) own_d16_0 rfl (pc' := 1) rfl ?_
  refine o_istore W0 (L' := #[.val (.ref b0), .val (.int (0 : Int32)), .val (.ref b1), .val (.int (0 : Int32)), .val (.int (2 : Int32)), .val (.int (0 : Int32)), .unset]) own_d16_1 rfl (pc' := 3) rfl ?_
  refine o_iload W0 own_d16_3 (v := (0 : Int32)) rfl (pc' := 5) rfl ?_
  refine o_iload W0 own_d16_5 (v := (2 : Int32)) rfl (pc' := 7) rfl ?_
  refine o_icmp_ge W0 own_d16_7 (by decide) (pq := 44) (by decide) (pc' := 10) rfl (fun hc7 => ?_) (fun hc7 => ?_)
  · exact absurd hc7 (by decide)
  · refine o_aloadN W0 own_d16_10 (v := (.ref b0)) rfl rfl (pc' := 11) rfl ?_
    refine o_iloadN W0 own_d16_11 (v := (0 : Int32)) rfl (pc' := 12) rfl ?_
    refine o_caload W0 A0 own_d16_12 (pc' := 13) rfl (i := 0) (v := k0) rfl rfl ?_
    refine o_istore W0 (L' := #[.val (.ref b0), .val (.int (0 : Int32)), .val (.ref b1), .val (.int (0 : Int32)), .val (.int (2 : Int32)), .val (.int (0 : Int32)), .val (.int k0)]) own_d16_13 rfl (pc' := 15) rfl ?_
    refine o_iload W0 own_d16_15 (v := k0) rfl (pc' := 17) rfl ?_
    refine o_sipush W0 (v := (255 : Int32)) own_d16_17 rfl (pc' := 20) rfl ?_
    refine o_icmp_le W0 own_d16_20 (by decide) (pq := 26) (by decide) (pc' := 23) rfl (fun hc20 => ?_) (fun hc20 => ?_)
    · refine o_aloadN W0 own_d16_26 (v := (.ref b1)) rfl rfl (pc' := 27) rfl ?_
      refine o_iloadN W0 own_d16_27 (v := (0 : Int32)) rfl (pc' := 28) rfl ?_
      refine o_iload W0 own_d16_28 (v := k0) rfl (pc' := 30) rfl ?_
      refine o_i2b W0 own_d16_30 (pc' := 31) rfl ?_
      refine o_bastore W0 A1 g1 own_d16_31 (pc' := 32) rfl (i := 0) rfl (Nat.le_of_ble_eq_true rfl) ?_
      intro T131 h131 W131 K131 A_b1_131
      have A_b0_131 := A0.keep1 K131 ne_b0_b1
      have ST_131 := ST.keepA A1 K131
      have A_b1_131 : OA Z h131 b1 .byte [((k0.toInt8.toInt32).toInt8.toInt32), 0] := A_b1_131
      have KK_K131 : Keep h0 h131 [b1] := (Keep.refl _ _).trans K131 (fun x hx => Or.inl hx)
      refine o_iinc W131 (x := (0 : Int32)) (L' := #[.val (.ref b0), .val (.int ((0 : Int32) + (1 : Int32))), .val (.ref b1), .val (.int (0 : Int32)), .val (.int (2 : Int32)), .val (.int (0 : Int32)), .val (.int k0)]) own_d16_32 rfl rfl (pc' := 35) rfl ?_
      show OF _ _ _ _ _ _ _ T131 (mkF m 35 #[.val (.ref b0), .val (.int (1 : Int32)), .val (.ref b1), .val (.int (0 : Int32)), .val (.int (2 : Int32)), .val (.int (0 : Int32)), .val (.int k0)] [])
      refine o_iinc W131 (x := (0 : Int32)) (L' := #[.val (.ref b0), .val (.int (1 : Int32)), .val (.ref b1), .val (.int ((0 : Int32) + (1 : Int32))), .val (.int (2 : Int32)), .val (.int (0 : Int32)), .val (.int k0)]) own_d16_35 rfl rfl (pc' := 38) rfl ?_
      show OF _ _ _ _ _ _ _ T131 (mkF m 38 #[.val (.ref b0), .val (.int (1 : Int32)), .val (.ref b1), .val (.int (1 : Int32)), .val (.int (2 : Int32)), .val (.int (0 : Int32)), .val (.int k0)] [])
      refine o_iinc W131 (x := (0 : Int32)) (L' := #[.val (.ref b0), .val (.int (1 : Int32)), .val (.ref b1), .val (.int (1 : Int32)), .val (.int (2 : Int32)), .val (.int ((0 : Int32) + (1 : Int32))), .val (.int k0)]) own_d16_38 rfl rfl (pc' := 41) rfl ?_
      show OF _ _ _ _ _ _ _ T131 (mkF m 41 #[.val (.ref b0), .val (.int (1 : Int32)), .val (.ref b1), .val (.int (1 : Int32)), .val (.int (2 : Int32)), .val (.int (1 : Int32)), .val (.int k0)] [])
      refine o_goto W131 own_d16_41 (by decide) (pq := 3) (by decide) ?_
      refine o_iload W131 own_d16_3 (v := (1 : Int32)) rfl (pc' := 5) rfl ?_
      refine o_iload W131 own_d16_5 (v := (2 : Int32)) rfl (pc' := 7) rfl ?_
      refine o_icmp_ge W131 own_d16_7 (by decide) (pq := 44) (by decide) (pc' := 10) rfl (fun hc7 => ?_) (fun hc7 => ?_)
      · exact absurd hc7 (by decide)
      · refine o_aloadN W131 own_d16_10 (v := (.ref b0)) rfl rfl (pc' := 11) rfl ?_
        refine o_iloadN W131 own_d16_11 (v := (1 : Int32)) rfl (pc' := 12) rfl ?_
        refine o_caload W131 A_b0_131 own_d16_12 (pc' := 13) rfl (i := 1) (v := k1) rfl rfl ?_
        refine o_istore W131 (L' := #[.val (.ref b0), .val (.int (1 : Int32)), .val (.ref b1), .val (.int (1 : Int32)), .val (.int (2 : Int32)), .val (.int (1 : Int32)), .val (.int k1)]) own_d16_13 rfl (pc' := 15) rfl ?_
        refine o_iload W131 own_d16_15 (v := k1) rfl (pc' := 17) rfl ?_
        refine o_sipush W131 (v := (255 : Int32)) own_d16_17 rfl (pc' := 20) rfl ?_
        refine o_icmp_le W131 own_d16_20 (by decide) (pq := 26) (by decide) (pc' := 23) rfl (fun hc20 => ?_) (fun hc20 => ?_)
        · refine o_aloadN W131 own_d16_26 (v := (.ref b1)) rfl rfl (pc' := 27) rfl ?_
          refine o_iloadN W131 own_d16_27 (v := (1 : Int32)) rfl (pc' := 28) rfl ?_
          refine o_iload W131 own_d16_28 (v := k1) rfl (pc' := 30) rfl ?_
          refine o_i2b W131 own_d16_30 (pc' := 31) rfl ?_
          refine o_bastore W131 A_b1_131 g1 own_d16_31 (pc' := 32) rfl (i := 1) rfl (Nat.le_of_ble_eq_true rfl) ?_
          intro T132 h132 W132 K132 A_b1_132
          have A_b0_132 := A_b0_131.keep1 K132 ne_b0_b1
          have ST_132 := ST_131.keepA A_b1_131 K132
          have A_b1_132 : OA Z h132 b1 .byte [((k0.toInt8.toInt32).toInt8.toInt32), ((k1.toInt8.toInt32).toInt8.toInt32)] := A_b1_132
          have KK_K132 : Keep h0 h132 [b1] := (KK_K131).trans K132 (fun x hx => Or.inl hx)
          refine o_iinc W132 (x := (1 : Int32)) (L' := #[.val (.ref b0), .val (.int ((1 : Int32) + (1 : Int32))), .val (.ref b1), .val (.int (1 : Int32)), .val (.int (2 : Int32)), .val (.int (1 : Int32)), .val (.int k1)]) own_d16_32 rfl rfl (pc' := 35) rfl ?_
          show OF _ _ _ _ _ _ _ T132 (mkF m 35 #[.val (.ref b0), .val (.int (2 : Int32)), .val (.ref b1), .val (.int (1 : Int32)), .val (.int (2 : Int32)), .val (.int (1 : Int32)), .val (.int k1)] [])
          refine o_iinc W132 (x := (1 : Int32)) (L' := #[.val (.ref b0), .val (.int (2 : Int32)), .val (.ref b1), .val (.int ((1 : Int32) + (1 : Int32))), .val (.int (2 : Int32)), .val (.int (1 : Int32)), .val (.int k1)]) own_d16_35 rfl rfl (pc' := 38) rfl ?_
          show OF _ _ _ _ _ _ _ T132 (mkF m 38 #[.val (.ref b0), .val (.int (2 : Int32)), .val (.ref b1), .val (.int (2 : Int32)), .val (.int (2 : Int32)), .val (.int (1 : Int32)), .val (.int k1)] [])
          refine o_iinc W132 (x := (1 : Int32)) (L' := #[.val (.ref b0), .val (.int (2 : Int32)), .val (.ref b1), .val (.int (2 : Int32)), .val (.int (2 : Int32)), .val (.int ((1 : Int32) + (1 : Int32))), .val (.int k1)]) own_d16_38 rfl rfl (pc' := 41) rfl ?_
          show OF _ _ _ _ _ _ _ T132 (mkF m 41 #[.val (.ref b0), .val (.int (2 : Int32)), .val (.ref b1), .val (.int (2 : Int32)), .val (.int (2 : Int32)), .val (.int (2 : Int32)), .val (.int k1)] [])
          refine o_goto W132 own_d16_41 (by decide) (pq := 3) (by decide) ?_
          refine o_iload W132 own_d16_3 (v := (2 : Int32)) rfl (pc' := 5) rfl ?_
          refine o_iload W132 own_d16_5 (v := (2 : Int32)) rfl (pc' := 7) rfl ?_
          refine o_icmp_ge W132 own_d16_7 (by decide) (pq := 44) (by decide) (pc' := 10) rfl (fun hc7 => ?_) (fun hc7 => ?_)
          · refine o_iload W132 own_d16_44 (v := (2 : Int32)) rfl (pc' := 46) rfl ?_
            refine o_retI W132 rfl own_d16_46 (by decide) (by decide) ?_
            exact ⟨_, rfl, KK_K132, ST_132, Or.inr (Or.inr (⟨rfl, by omega, A_b1_132⟩))⟩
          · exact absurd hc7 (by decide)
        · refine o_iload W131 own_d16_23 (v := (1 : Int32)) rfl (pc' := 25) rfl ?_
          refine o_retI W131 rfl own_d16_25 (by decide) (by decide) ?_
          exact ⟨_, rfl, KK_K131, ST_131, Or.inr (Or.inl (⟨rfl, by omega⟩))⟩
    · refine o_iload W0 own_d16_23 (v := (0 : Int32)) rfl (pc' := 25) rfl ?_
      refine o_retI W0 rfl own_d16_25 (by decide) (by decide) ?_
      exact ⟨_, rfl, Keep.refl _ _, ST, Or.inl (⟨rfl, by omega⟩)⟩
theorem own_ef21_2 (m : MethodId) (z0 : Int32) : entryFrame m #[(.int z0)] 1 = mkF m 0 #[.val (.int z0)] [] := by first | (simp [entryFrame, mkF, argsToLocals, Value.category]; done) | rfl
set_option maxRecDepth 65536 in
set_option maxHeartbeats 4000000 in
theorem rm21_2 (l : Launch) (Z : State) (a0 : Array Value) (hw : ∀ d ∈ tables_1, d.before a0 Z = true)  (h0 : Heap) (n0 : Nat) (Z0 : n0 ≤ h0.size) (cs : Int32) (fm : Value) (ST : OSt Z h0 cs fm) :
    OCon l Z (⟨"java/lang/StringUTF16", "newBytesFor", "(I)[B"⟩ : MethodName) jdk_52_method_2_code 1 (some (.array .byte)) [] ({ frames := 1, cells := 1, slots := 4, locals := 12 } : Room) #[(.int (2 : Int32))] h0 n0 (QA fun r h' => r = h0.size ∧ Keep h0 h' [] ∧ OSt Z h' cs fm ∧ OA Z h' r .byte [0, 0, 0, 0]) := by
  refine OCon.mk (plainFor_of_name own_pn2) Z0 ?_
  intro p e s m below meth cd s₁ W0
  refine OF.cast (own_ef21_2 m (2 : Int32)) ?_
  refine o_iloadN W0 own_d21_0 (v := (2 : Int32)) rfl (pc' := 1) rfl ?_
  refine o_callSI W0 (rm22 l Z a0 hw (2 : Int32) h0 n0 W0.le (by decide)) (ow hw 93 rfl) (ow hw 94 rfl) (ow hw 73 rfl) (ow hw 95 rfl) (by decide) (argsL := [(.int (2 : Int32))]) (S := []) (lenOf own_pd7 rfl) rfl rfl rfl (wt := 0) rfl (by decide) (by decide) (by decide) (by decide) (kk' := 0) rfl (nn' := 0) rfl own_d21_1 (pc' := 4) rfl ?_
  intro r133 T133 h133 W133 q133 z133
  obtain ⟨q133, rfl⟩ := q133
  obtain rfl : r133 = (4 : Int32) := q133
  refine o_newarray W133 (ty := .byte) (len := 4) (cap := 4) (ow hw 20 rfl) rfl rfl rfl own_d21_4 (pc' := 6) rfl rfl (by decide) (by decide) (by decide) (by decide) (kk' := 1) rfl (nn' := 4) rfl ?_
  intro T135 h135 a134 W135 E135 g_a134 A_a134
  have b_a134 : n0 ≤ a134 := by rw [g_a134]; exact W133.le
  have A_a134 : OA Z h135 a134 .byte [0, 0, 0, 0] := A_a134
  have ST_135 := ST.ext E135
  refine o_retA W135 (t := (.array .byte)) rfl rfl rfl rfl own_d21_6 (by decide) (by decide) ?_
  exact ⟨_, rfl, g_a134, (Keep.refl h0 []).ext E135, ST_135, A_a134⟩
theorem own_ef20_2 (m : MethodId) (z0 : Addr) (z1 : Int32) (z2 : Int32) : entryFrame m #[(.ref z0), (.int z1), (.int z2)] 5 = mkF m 0 #[.val (.ref z0), .val (.int z1), .val (.int z2), .unset, .unset] [] := by first | (simp [entryFrame, mkF, argsToLocals, Value.category]; done) | rfl
set_option maxRecDepth 65536 in
set_option maxHeartbeats 4000000 in
theorem rm20_2 (l : Launch) (Z : State) (a0 : Array Value) (hw : ∀ d ∈ tables_1, d.before a0 Z = true) (b0 : Addr) (h0 : Heap) (n0 : Nat) (Z0 : n0 ≤ h0.size) (cs : Int32) (fm : Value) (ST : OSt Z h0 cs fm) (k0 k1 : Int32) (hk0 : 0 ≤ k0.toInt ∧ k0.toInt ≤ 65535) (hk1 : 0 ≤ k1.toInt ∧ k1.toInt ≤ 65535) (A0 : OA Z h0 b0 .char [k0, k1]) :
    OCon l Z (⟨"java/lang/StringUTF16", "toBytes", "([CII)[B"⟩ : MethodName) jdk_52_method_14_code 5 (some (.array .byte)) [] ({ frames := 2, cells := 1, slots := 4, locals := 24 } : Room) #[(.ref b0), (.int (0 : Int32)), (.int (2 : Int32))] h0 n0 (QA fun r h' => r = h0.size ∧ Keep h0 h' [] ∧ OSt Z h' cs fm ∧ OA Z h' r .byte [own_lo k0, own_hi k0, own_lo k1, own_hi k1]) := by
  refine OCon.mk (plainFor_of_name own_pn2) Z0 ?_
  intro p e s m below meth cd s₁ W0
  refine OF.cast (own_ef20_2 m b0 (0 : Int32) (2 : Int32)) ?_
  have c_0___Int32_ : (0 : Int32).toInt = 0 := rfl
  have c_1___Int32_ : (1 : Int32).toInt = 1 := rfl
  have c_2___Int32_ : (2 : Int32).toInt = 2 := rfl
  refine o_iloadN W0 own_d20_0 (v := (2 : Int32)) rfl (pc' := 1) rfl ?_
  refine o_callSA W0 (rm21_2 l Z a0 hw h0 n0 W0.le cs fm ST) (ow hw 90 rfl) (ow hw 91 rfl) (ow hw 73 rfl) (ow hw 92 rfl) (by decide) (argsL := [(.int (2 : Int32))]) (S := []) (lenOf own_pd8 rfl) rfl rfl rfl (wt := 0) rfl (by decide) (by decide) (by decide) (by decide) (kk' := 1) rfl (nn' := 4) rfl own_d20_1 (pc' := 4) rfl ?_
  intro r136 T136 h136 W136 q136 z136
  obtain ⟨gr, KB, ST_136, AB⟩ := q136
  have A0_136 := A0.keep KB nin0
  have ne_b0_r136 : b0 ≠ r136 := Nat.ne_of_lt (Nat.lt_of_lt_of_le A0.lt (Nat.le_of_eq gr.symm))
  have gb : n0 ≤ r136 := by rw [gr]; exact Z0
  have KK := KB
  refine o_astoreN W136 (L' := #[.val (.ref b0), .val (.int (0 : Int32)), .val (.int (2 : Int32)), .val (.ref r136), .unset]) own_d20_4 rfl rfl (pc' := 5) rfl ?_
  refine o_iconst W136 (v := (0 : Int32)) own_d20_5 rfl (pc' := 6) rfl ?_
  refine o_istore W136 (L' := #[.val (.ref b0), .val (.int (0 : Int32)), .val (.int (2 : Int32)), .val (.ref r136), .val (.int (0 : Int32))]) own_d20_6 rfl (pc' := 8) rfl ?_
  refine o_iload W136 own_d20_8 (v := (0 : Int32)) rfl (pc' := 10) rfl ?_
  refine o_iloadN W136 own_d20_10 (v := (2 : Int32)) rfl (pc' := 11) rfl ?_
  refine o_icmp_ge W136 own_d20_11 (by decide) (pq := 32) (by decide) (pc' := 14) rfl (fun hc11 => ?_) (fun hc11 => ?_)
  · exact absurd hc11 (by decide)
  · refine o_aloadN W136 own_d20_14 (v := (.ref r136)) rfl rfl (pc' := 15) rfl ?_
    refine o_iload W136 own_d20_15 (v := (0 : Int32)) rfl (pc' := 17) rfl ?_
    refine o_aloadN W136 own_d20_17 (v := (.ref b0)) rfl rfl (pc' := 18) rfl ?_
    refine o_iloadN W136 own_d20_18 (v := (0 : Int32)) rfl (pc' := 19) rfl ?_
    refine o_caload W136 A0_136 own_d20_19 (pc' := 20) rfl (i := 0) (v := k0) rfl rfl ?_
    refine o_callS W136 (rm23 l Z a0 hw r136 (0 : Int32) k0 h136 n0 W136.le cs fm ST_136 _ 0 AB gb rfl (by decide) (Nat.le_of_ble_eq_true rfl)) (ow hw 97 rfl) (ow hw 98 rfl) (ow hw 73 rfl) (ow hw 99 rfl) (by decide) (argsL := [(.ref r136), (.int (0 : Int32)), (.int k0)]) (S := []) (lenOf own_pd9 rfl) rfl rfl rfl (wt := 0) rfl (by decide) (by decide) (by decide) (by decide) (kk' := 1) rfl (nn' := 4) rfl own_d20_20 (pc' := 23) rfl ?_
    intro r137 T137 h137 W137 q137 z137
    obtain ⟨rfl, q137⟩ := q137
    show OF _ _ _ _ _ _ _ T137 (mkF m 23 #[.val (.ref b0), .val (.int (0 : Int32)), .val (.int (2 : Int32)), .val (.ref r136), .val (.int (0 : Int32))] [])
    obtain ⟨KP, ST_137, AB_137⟩ := q137
    have AB_137 : OA Z h137 r136 .byte [own_lo k0, own_hi k0, 0, 0] := AB_137
    have A0_137 := A0_136.keep1 KP ne_b0_r136
    have KK : Keep h0 h137 [] := KK.trans KP (fun x hx => Or.inr (by simp only [List.mem_singleton] at hx; rw [hx, gr]; exact Nat.le_refl _))
    refine o_iinc W137 (x := (0 : Int32)) (L' := #[.val (.ref b0), .val (.int ((0 : Int32) + (1 : Int32))), .val (.int (2 : Int32)), .val (.ref r136), .val (.int (0 : Int32))]) own_d20_23 rfl rfl (pc' := 26) rfl ?_
    show OF _ _ _ _ _ _ _ T137 (mkF m 26 #[.val (.ref b0), .val (.int (1 : Int32)), .val (.int (2 : Int32)), .val (.ref r136), .val (.int (0 : Int32))] [])
    refine o_iinc W137 (x := (0 : Int32)) (L' := #[.val (.ref b0), .val (.int (1 : Int32)), .val (.int (2 : Int32)), .val (.ref r136), .val (.int ((0 : Int32) + (1 : Int32)))]) own_d20_26 rfl rfl (pc' := 29) rfl ?_
    show OF _ _ _ _ _ _ _ T137 (mkF m 29 #[.val (.ref b0), .val (.int (1 : Int32)), .val (.int (2 : Int32)), .val (.ref r136), .val (.int (1 : Int32))] [])
    refine o_goto W137 own_d20_29 (by decide) (pq := 8) (by decide) ?_
    refine o_iload W137 own_d20_8 (v := (1 : Int32)) rfl (pc' := 10) rfl ?_
    refine o_iloadN W137 own_d20_10 (v := (2 : Int32)) rfl (pc' := 11) rfl ?_
    refine o_icmp_ge W137 own_d20_11 (by decide) (pq := 32) (by decide) (pc' := 14) rfl (fun hc11 => ?_) (fun hc11 => ?_)
    · exact absurd hc11 (by decide)
    · refine o_aloadN W137 own_d20_14 (v := (.ref r136)) rfl rfl (pc' := 15) rfl ?_
      refine o_iload W137 own_d20_15 (v := (1 : Int32)) rfl (pc' := 17) rfl ?_
      refine o_aloadN W137 own_d20_17 (v := (.ref b0)) rfl rfl (pc' := 18) rfl ?_
      refine o_iloadN W137 own_d20_18 (v := (1 : Int32)) rfl (pc' := 19) rfl ?_
      refine o_caload W137 A0_137 own_d20_19 (pc' := 20) rfl (i := 1) (v := k1) rfl rfl ?_
      refine o_callS W137 (rm23 l Z a0 hw r136 (1 : Int32) k1 h137 n0 W137.le cs fm ST_137 _ 1 AB_137 gb rfl (by decide) (Nat.le_of_ble_eq_true rfl)) (ow hw 97 rfl) (ow hw 98 rfl) (ow hw 73 rfl) (ow hw 99 rfl) (by decide) (argsL := [(.ref r136), (.int (1 : Int32)), (.int k1)]) (S := []) (lenOf own_pd9 rfl) rfl rfl rfl (wt := 0) rfl (by decide) (by decide) (by decide) (by decide) (kk' := 1) rfl (nn' := 4) rfl own_d20_20 (pc' := 23) rfl ?_
      intro r138 T138 h138 W138 q138 z138
      obtain ⟨rfl, q138⟩ := q138
      show OF _ _ _ _ _ _ _ T138 (mkF m 23 #[.val (.ref b0), .val (.int (1 : Int32)), .val (.int (2 : Int32)), .val (.ref r136), .val (.int (1 : Int32))] [])
      obtain ⟨KP, ST_138, AB_138⟩ := q138
      have AB_138 : OA Z h138 r136 .byte [own_lo k0, own_hi k0, own_lo k1, own_hi k1] := AB_138
      have A0_138 := A0_137.keep1 KP ne_b0_r136
      have KK : Keep h0 h138 [] := KK.trans KP (fun x hx => Or.inr (by simp only [List.mem_singleton] at hx; rw [hx, gr]; exact Nat.le_refl _))
      refine o_iinc W138 (x := (1 : Int32)) (L' := #[.val (.ref b0), .val (.int ((1 : Int32) + (1 : Int32))), .val (.int (2 : Int32)), .val (.ref r136), .val (.int (1 : Int32))]) own_d20_23 rfl rfl (pc' := 26) rfl ?_
      show OF _ _ _ _ _ _ _ T138 (mkF m 26 #[.val (.ref b0), .val (.int (2 : Int32)), .val (.int (2 : Int32)), .val (.ref r136), .val (.int (1 : Int32))] [])
      refine o_iinc W138 (x := (1 : Int32)) (L' := #[.val (.ref b0), .val (.int (2 : Int32)), .val (.int (2 : Int32)), .val (.ref r136), .val (.int ((1 : Int32) + (1 : Int32)))]) own_d20_26 rfl rfl (pc' := 29) rfl ?_
      show OF _ _ _ _ _ _ _ T138 (mkF m 29 #[.val (.ref b0), .val (.int (2 : Int32)), .val (.int (2 : Int32)), .val (.ref r136), .val (.int (2 : Int32))] [])
      refine o_goto W138 own_d20_29 (by decide) (pq := 8) (by decide) ?_
      refine o_iload W138 own_d20_8 (v := (2 : Int32)) rfl (pc' := 10) rfl ?_
      refine o_iloadN W138 own_d20_10 (v := (2 : Int32)) rfl (pc' := 11) rfl ?_
      refine o_icmp_ge W138 own_d20_11 (by decide) (pq := 32) (by decide) (pc' := 14) rfl (fun hc11 => ?_) (fun hc11 => ?_)
      · refine o_aloadN W138 own_d20_32 (v := (.ref r136)) rfl rfl (pc' := 33) rfl ?_
        refine o_retA W138 (t := (.array .byte)) rfl rfl rfl rfl own_d20_33 (by decide) (by decide) ?_
        exact ⟨_, rfl, gr, KK, ST_138, AB_138⟩
      · exact absurd hc11 (by decide)
theorem own_ef15_2 (m : MethodId) (z0 : Addr) (z1 : Int32) (z2 : Int32) : entryFrame m #[(.ref z0), (.int z1), (.int z2)] 6 = mkF m 0 #[.val (.ref z0), .val (.int z1), .val (.int z2), .unset, .unset, .unset] [] := by first | (simp [entryFrame, mkF, argsToLocals, Value.category]; done) | rfl
set_option maxRecDepth 65536 in
set_option maxHeartbeats 4000000 in
theorem rm15_2 (l : Launch) (Z : State) (a0 : Array Value) (hw : ∀ d ∈ tables_1, d.before a0 Z = true) (b0 : Addr) (h0 : Heap) (n0 : Nat) (Z0 : n0 ≤ h0.size) (cs : Int32) (fm : Value) (ST : OSt Z h0 cs fm) (k0 k1 : Int32) (hk0 : 0 ≤ k0.toInt ∧ k0.toInt ≤ 65535) (hk1 : 0 ≤ k1.toInt ∧ k1.toInt ≤ 65535) (A0 : OA Z h0 b0 .char [k0, k1]) :
    OCon l Z (⟨"java/lang/StringUTF16", "compress", "([CII)[B"⟩ : MethodName) jdk_52_method_16_code 6 (some (.array .byte)) [] ({ frames := 3, cells := 2, slots := 6, locals := 40 } : Room) #[(.ref b0), (.int (0 : Int32)), (.int (2 : Int32))] h0 n0 (QA fun r h' => h0.size ≤ r ∧ Keep h0 h' [] ∧ OSt Z h' cs fm ∧ (((k0.toInt ≤ 255 ∧ k1.toInt ≤ 255) ∧ OA Z h' r .byte [own_b k0, own_b k1]) ∨ OA Z h' r .byte [own_lo k0, own_hi k0, own_lo k1, own_hi k1])) := by
  refine OCon.mk (plainFor_of_name own_pn2) Z0 ?_
  intro p e s m below meth cd s₁ W0
  refine OF.cast (own_ef15_2 m b0 (0 : Int32) (2 : Int32)) ?_
  have c_0___Int32_ : (0 : Int32).toInt = 0 := rfl
  have c_1___Int32_ : (1 : Int32).toInt = 1 := rfl
  have c_2___Int32_ : (2 : Int32).toInt = 2 := rfl
  have c_255___Int32_ : (255 : Int32).toInt = 255 := rfl
  refine o_iloadN W0 own_d15_0 (v := (2 : Int32)) rfl (pc' := 1) rfl ?_
  refine o_newarray W0 (ty := .byte) (len := 2) (cap := 2) (ow hw 20 rfl) rfl rfl rfl own_d15_1 (pc' := 3) rfl rfl (by decide) (by decide) (by decide) (by decide) (kk' := 1) rfl (nn' := 2) rfl ?_
  intro T140 h140 a139 W140 E140 g_a139 A_a139
  have b_a139 : n0 ≤ a139 := by rw [g_a139]; exact W0.le
  have ne_b0_a139 : b0 ≠ a139 := Nat.ne_of_lt (Nat.lt_of_lt_of_le A0.lt (Nat.le_of_eq g_a139.symm))
  have A_b0_140 := A0.ext E140
  have A_a139 : OA Z h140 a139 .byte [0, 0] := A_a139
  have ST_140 := ST.ext E140
  have EE := E140
  refine o_astoreN W140 (L' := #[.val (.ref b0), .val (.int (0 : Int32)), .val (.int (2 : Int32)), .val (.ref a139), .unset, .unset]) own_d15_3 rfl rfl (pc' := 4) rfl ?_
  refine o_aloadN W140 own_d15_4 (v := (.ref b0)) rfl rfl (pc' := 5) rfl ?_
  refine o_iloadN W140 own_d15_5 (v := (0 : Int32)) rfl (pc' := 6) rfl ?_
  refine o_aloadN W140 own_d15_6 (v := (.ref a139)) rfl rfl (pc' := 7) rfl ?_
  refine o_iconst W140 (v := (0 : Int32)) own_d15_7 rfl (pc' := 8) rfl ?_
  refine o_iloadN W140 own_d15_8 (v := (2 : Int32)) rfl (pc' := 9) rfl ?_
  refine o_callSI W140 (rm16_2 l Z a0 hw b0 a139 h140 n0 W140.le cs fm ST_140 k0 k1 hk0 hk1 A_b0_140 A_a139 b_a139 ne_b0_a139) (ow hw 75 rfl) (ow hw 76 rfl) (ow hw 73 rfl) (ow hw 77 rfl) (by decide) (argsL := [(.ref b0), (.int (0 : Int32)), (.ref a139), (.int (0 : Int32)), (.int (2 : Int32))]) (S := []) (lenOf own_pd10 rfl) rfl rfl rfl (wt := 0) rfl (by decide) (by decide) (by decide) (by decide) (kk' := 1) rfl (nn' := 2) rfl own_d15_9 (pc' := 12) rfl ?_
  intro r141 T141 h141 W141 q141 z141
  obtain ⟨KC, ST_141, q141⟩ := q141
  have A0_141 := A_b0_140.keep1 KC ne_b0_a139
  have KK : Keep h0 h141 [] := ((Keep.refl h0 []).ext EE).trans KC (fun x hx => Or.inr (by simp only [List.mem_singleton] at hx; rw [hx, g_a139]; exact Nat.le_refl _))
  rcases q141 with ⟨rfl, hj⟩ | ⟨rfl, hj⟩ | ⟨rfl, hall, AL⟩
  · refine o_istore W141 (L' := #[.val (.ref b0), .val (.int (0 : Int32)), .val (.int (2 : Int32)), .val (.ref a139), .val (.int (0 : Int32)), .unset]) own_d15_12 rfl (pc' := 14) rfl ?_
    refine o_iload W141 own_d15_14 (v := (0 : Int32)) rfl (pc' := 16) rfl ?_
    refine o_iloadN W141 own_d15_16 (v := (2 : Int32)) rfl (pc' := 17) rfl ?_
    refine o_icmp_eq W141 own_d15_17 (by decide) (pq := 57) (by decide) (pc' := 20) rfl (fun hc17 => ?_) (fun hc17 => ?_)
    · exact absurd hc17 (by decide)
    · refine o_aloadN W141 own_d15_20 (v := (.ref b0)) rfl rfl (pc' := 21) rfl ?_
      refine o_iloadN W141 own_d15_21 (v := (0 : Int32)) rfl (pc' := 22) rfl ?_
      refine o_iloadN W141 own_d15_22 (v := (2 : Int32)) rfl (pc' := 23) rfl ?_
      have KK0 := KK
      refine o_callSA W141 (rm20_2 l Z a0 hw b0 h141 n0 W141.le cs fm ST_141 k0 k1 hk0 hk1 A0_141) (ow hw 87 rfl) (ow hw 88 rfl) (ow hw 73 rfl) (ow hw 89 rfl) (by decide) (argsL := [(.ref b0), (.int (0 : Int32)), (.int (2 : Int32))]) (S := []) (lenOf own_pd11 rfl) rfl rfl rfl (wt := 0) rfl (by decide) (by decide) (by decide) (by decide) (kk' := 2) rfl (nn' := 6) rfl own_d15_23 (pc' := 26) rfl ?_
      intro r142 T142 h142 W142 q142 z142
      obtain ⟨gu, KU, ST_142, AU⟩ := q142
      have KK := KK.trans KU (fun x hx => nomatch hx)
      refine o_astore W142 (L' := #[.val (.ref b0), .val (.int (0 : Int32)), .val (.int (2 : Int32)), .val (.ref a139), .val (.int (0 : Int32)), .val (.ref r142)]) own_d15_26 rfl rfl (pc' := 28) rfl ?_
      refine o_aload W142 own_d15_28 (v := (.ref r142)) rfl rfl (pc' := 30) rfl ?_
      refine o_iload W142 own_d15_30 (v := (0 : Int32)) rfl (pc' := 32) rfl ?_
      refine o_callSI W142 (rm24 l Z a0 hw r142 (0 : Int32) h142 n0 W142.le cs fm ST_142 _ 0 _ _ AU rfl (by decide) rfl rfl) (ow hw 103 rfl) (ow hw 104 rfl) (ow hw 73 rfl) (ow hw 105 rfl) (by decide) (argsL := [(.ref r142), (.int (0 : Int32))]) (S := []) (lenOf own_pd12 rfl) rfl rfl rfl (wt := 0) rfl (by decide) (by decide) (by decide) (by decide) (kk' := 2) rfl (nn' := 6) rfl own_d15_32 (pc' := 35) rfl ?_
      intro r143 T143 h143 W143 q143 z143
      obtain ⟨q143, rfl⟩ := q143
      obtain rfl : r143 = k0 := q143.trans (own_gcv k0 hk0.1 hk0.2)
      refine o_sipush W143 (v := (255 : Int32)) own_d15_35 rfl (pc' := 38) rfl ?_
      have cm1 : (-1 : Int32).toInt = -1 := rfl
      have ci0 : (0 : Int32).toInt = 0 := rfl
      have ci1 : (1 : Int32).toInt = 1 := rfl
      have ci2 : (2 : Int32).toInt = 2 := rfl
      have ci3 : (3 : Int32).toInt = 3 := rfl
      have ci4 : (4 : Int32).toInt = 4 := rfl
      have c255 : (255 : Int32).toInt = 255 := rfl
      refine o_icmp_gt W143 own_d15_38 (by decide) (pq := 54) (by decide) (pc' := 41) rfl (fun hc38 => ?_) (fun hc38 => ?_)
      · refine o_aload W143 own_d15_54 (v := (.ref r142)) rfl rfl (pc' := 56) rfl ?_
        refine o_retA W143 (t := (.array .byte)) rfl rfl rfl rfl own_d15_56 (by decide) (by decide) ?_
        exact ⟨_, rfl, by rw [gu]; exact KK0.1, KK, ST_142, Or.inr AU⟩
      · exfalso; omega
  · refine o_istore W141 (L' := #[.val (.ref b0), .val (.int (0 : Int32)), .val (.int (2 : Int32)), .val (.ref a139), .val (.int (1 : Int32)), .unset]) own_d15_12 rfl (pc' := 14) rfl ?_
    refine o_iload W141 own_d15_14 (v := (1 : Int32)) rfl (pc' := 16) rfl ?_
    refine o_iloadN W141 own_d15_16 (v := (2 : Int32)) rfl (pc' := 17) rfl ?_
    refine o_icmp_eq W141 own_d15_17 (by decide) (pq := 57) (by decide) (pc' := 20) rfl (fun hc17 => ?_) (fun hc17 => ?_)
    · exact absurd hc17 (by decide)
    · refine o_aloadN W141 own_d15_20 (v := (.ref b0)) rfl rfl (pc' := 21) rfl ?_
      refine o_iloadN W141 own_d15_21 (v := (0 : Int32)) rfl (pc' := 22) rfl ?_
      refine o_iloadN W141 own_d15_22 (v := (2 : Int32)) rfl (pc' := 23) rfl ?_
      have KK0 := KK
      refine o_callSA W141 (rm20_2 l Z a0 hw b0 h141 n0 W141.le cs fm ST_141 k0 k1 hk0 hk1 A0_141) (ow hw 87 rfl) (ow hw 88 rfl) (ow hw 73 rfl) (ow hw 89 rfl) (by decide) (argsL := [(.ref b0), (.int (0 : Int32)), (.int (2 : Int32))]) (S := []) (lenOf own_pd11 rfl) rfl rfl rfl (wt := 0) rfl (by decide) (by decide) (by decide) (by decide) (kk' := 2) rfl (nn' := 6) rfl own_d15_23 (pc' := 26) rfl ?_
      intro r144 T144 h144 W144 q144 z144
      obtain ⟨gu, KU, ST_144, AU⟩ := q144
      have KK := KK.trans KU (fun x hx => nomatch hx)
      refine o_astore W144 (L' := #[.val (.ref b0), .val (.int (0 : Int32)), .val (.int (2 : Int32)), .val (.ref a139), .val (.int (1 : Int32)), .val (.ref r144)]) own_d15_26 rfl rfl (pc' := 28) rfl ?_
      refine o_aload W144 own_d15_28 (v := (.ref r144)) rfl rfl (pc' := 30) rfl ?_
      refine o_iload W144 own_d15_30 (v := (1 : Int32)) rfl (pc' := 32) rfl ?_
      refine o_callSI W144 (rm24 l Z a0 hw r144 (1 : Int32) h144 n0 W144.le cs fm ST_144 _ 1 _ _ AU rfl (by decide) rfl rfl) (ow hw 103 rfl) (ow hw 104 rfl) (ow hw 73 rfl) (ow hw 105 rfl) (by decide) (argsL := [(.ref r144), (.int (1 : Int32))]) (S := []) (lenOf own_pd12 rfl) rfl rfl rfl (wt := 0) rfl (by decide) (by decide) (by decide) (by decide) (kk' := 2) rfl (nn' := 6) rfl own_d15_32 (pc' := 35) rfl ?_
      intro r145 T145 h145 W145 q145 z145
      obtain ⟨q145, rfl⟩ := q145
      obtain rfl : r145 = k1 := q145.trans (own_gcv k1 hk1.1 hk1.2)
      refine o_sipush W145 (v := (255 : Int32)) own_d15_35 rfl (pc' := 38) rfl ?_
      have cm1 : (-1 : Int32).toInt = -1 := rfl
      have ci0 : (0 : Int32).toInt = 0 := rfl
      have ci1 : (1 : Int32).toInt = 1 := rfl
      have ci2 : (2 : Int32).toInt = 2 := rfl
      have ci3 : (3 : Int32).toInt = 3 := rfl
      have ci4 : (4 : Int32).toInt = 4 := rfl
      have c255 : (255 : Int32).toInt = 255 := rfl
      refine o_icmp_gt W145 own_d15_38 (by decide) (pq := 54) (by decide) (pc' := 41) rfl (fun hc38 => ?_) (fun hc38 => ?_)
      · refine o_aload W145 own_d15_54 (v := (.ref r144)) rfl rfl (pc' := 56) rfl ?_
        refine o_retA W145 (t := (.array .byte)) rfl rfl rfl rfl own_d15_56 (by decide) (by decide) ?_
        exact ⟨_, rfl, by rw [gu]; exact KK0.1, KK, ST_144, Or.inr AU⟩
      · exfalso; omega
  · refine o_istore W141 (L' := #[.val (.ref b0), .val (.int (0 : Int32)), .val (.int (2 : Int32)), .val (.ref a139), .val (.int (2 : Int32)), .unset]) own_d15_12 rfl (pc' := 14) rfl ?_
    refine o_iload W141 own_d15_14 (v := (2 : Int32)) rfl (pc' := 16) rfl ?_
    refine o_iloadN W141 own_d15_16 (v := (2 : Int32)) rfl (pc' := 17) rfl ?_
    refine o_icmp_eq W141 own_d15_17 (by decide) (pq := 57) (by decide) (pc' := 20) rfl (fun hc17 => ?_) (fun hc17 => ?_)
    · refine o_aloadN W141 own_d15_57 (v := (.ref a139)) rfl rfl (pc' := 58) rfl ?_
      refine o_retA W141 (t := (.array .byte)) rfl rfl rfl rfl own_d15_58 (by decide) (by decide) ?_
      exact ⟨_, rfl, Nat.le_of_eq g_a139.symm, KK, ST_141, Or.inl ⟨hall, AL⟩⟩
    · exact absurd hc17 (by decide)
theorem own_ef17_2L (m : MethodId) (z0 : Addr) (z1 : Int32) : entryFrame m #[(.ref z0), (.int z1)] 2 = mkF m 0 #[.val (.ref z0), .val (.int z1)] [] := by first | (simp [entryFrame, mkF, argsToLocals, Value.category]; done) | rfl
set_option maxRecDepth 65536 in
set_option maxHeartbeats 4000000 in
theorem rm17_2L (l : Launch) (Z : State) (a0 : Array Value) (hw : ∀ d ∈ tables_1, d.before a0 Z = true) (b1 : Addr) (h0 : Heap) (n0 : Nat) (Z0 : n0 ≤ h0.size) (k0 k1 : Int32) (A1 : OA Z h0 b1 .byte [own_b k0, own_b k1]) :
    OCon l Z (⟨"java/lang/StringUTF16", "coderFromArrayLen", "([BI)B"⟩ : MethodName) jdk_52_method_15_code 2 (some .byte) [] ({ frames := 0, cells := 0, slots := 0, locals := 0 } : Room) #[(.ref b1), (.int (2 : Int32))] h0 n0 (QI fun r h' => r = 0 ∧ h0 = h') := by
  refine OCon.mk (plainFor_of_name own_pn2) Z0 ?_
  intro p e s m below meth cd s₁ W0
  refine OF.cast (own_ef17_2L m b1 (2 : Int32)) ?_
  refine o_iloadN W0 own_d17_0 (v := (2 : Int32)) rfl (pc' := 1) rfl ?_
  refine o_aloadN W0 own_d17_1 (v := (.ref b1)) rfl rfl (pc' := 2) rfl ?_
  refine o_arraylength W0 A1 own_d17_2 (pc' := 3) rfl ?_
  intro v146 hv146
  obtain rfl : v146 = (2 : Int32) := o_eq (y := (2 : Int32)) hv146
  refine o_isub W0 own_d17_3 (pc' := 4) rfl ?_
  show OF _ _ _ _ _ _ _ s₁ (mkF m 4 #[.val (.ref b1), .val (.int (2 : Int32))] [(.int (0 : Int32))])
  refine o_bipush W0 (v := (31 : Int32)) own_d17_4 rfl (pc' := 6) rfl ?_
  refine o_iushr W0 own_d17_6 (pc' := 7) rfl ?_
  refine o_i2b W0 own_d17_7 (pc' := 8) rfl ?_
  refine o_retN W0 (t := .byte) rfl (by simp) own_d17_8 (by decide) (by decide) ?_
  exact ⟨0, rfl, rfl, rfl⟩
theorem own_ef17_2U (m : MethodId) (z0 : Addr) (z1 : Int32) : entryFrame m #[(.ref z0), (.int z1)] 2 = mkF m 0 #[.val (.ref z0), .val (.int z1)] [] := by first | (simp [entryFrame, mkF, argsToLocals, Value.category]; done) | rfl
set_option maxRecDepth 65536 in
set_option maxHeartbeats 4000000 in
theorem rm17_2U (l : Launch) (Z : State) (a0 : Array Value) (hw : ∀ d ∈ tables_1, d.before a0 Z = true) (b1 : Addr) (h0 : Heap) (n0 : Nat) (Z0 : n0 ≤ h0.size) (k0 k1 : Int32) (A1 : OA Z h0 b1 .byte [own_lo k0, own_hi k0, own_lo k1, own_hi k1]) :
    OCon l Z (⟨"java/lang/StringUTF16", "coderFromArrayLen", "([BI)B"⟩ : MethodName) jdk_52_method_15_code 2 (some .byte) [] ({ frames := 0, cells := 0, slots := 0, locals := 0 } : Room) #[(.ref b1), (.int (2 : Int32))] h0 n0 (QI fun r h' => r = 1 ∧ h0 = h') := by
  refine OCon.mk (plainFor_of_name own_pn2) Z0 ?_
  intro p e s m below meth cd s₁ W0
  refine OF.cast (own_ef17_2U m b1 (2 : Int32)) ?_
  refine o_iloadN W0 own_d17_0 (v := (2 : Int32)) rfl (pc' := 1) rfl ?_
  refine o_aloadN W0 own_d17_1 (v := (.ref b1)) rfl rfl (pc' := 2) rfl ?_
  refine o_arraylength W0 A1 own_d17_2 (pc' := 3) rfl ?_
  intro v147 hv147
  obtain rfl : v147 = (4 : Int32) := o_eq (y := (4 : Int32)) hv147
  refine o_isub W0 own_d17_3 (pc' := 4) rfl ?_
  show OF _ _ _ _ _ _ _ s₁ (mkF m 4 #[.val (.ref b1), .val (.int (2 : Int32))] [(.int (-2 : Int32))])
  refine o_bipush W0 (v := (31 : Int32)) own_d17_4 rfl (pc' := 6) rfl ?_
  refine o_iushr W0 own_d17_6 (pc' := 7) rfl ?_
  refine o_i2b W0 own_d17_7 (pc' := 8) rfl ?_
  refine o_retN W0 (t := .byte) rfl (by simp) own_d17_8 (by decide) (by decide) ?_
  exact ⟨1, rfl, rfl, rfl⟩
theorem own_ef3_2 (m : MethodId) (z0 : Addr) (z1 : Addr) (z2 : Int32) (z3 : Int32) : entryFrame m #[(.ref z0), (.ref z1), (.int z2), (.int z3), .null] 6 = mkF m 0 #[.val (.ref z0), .val (.ref z1), .val (.int z2), .val (.int z3), .val .null, .unset] [] := by first | (simp [entryFrame, mkF, argsToLocals, Value.category]; done) | rfl
set_option maxRecDepth 65536 in
set_option maxHeartbeats 4000000 in
theorem rm3_2 (l : Launch) (Z : State) (a0 : Array Value) (hw : ∀ d ∈ tables_1, d.before a0 Z = true) (b0 b1 : Addr) (h0 : Heap) (n0 : Nat) (Z0 : n0 ≤ h0.size) (cs : Int32) (fm : Value) (ST : OSt Z h0 cs fm) (hcs : ¬ cs.toInt = 0) (k0 k1 : Int32) (hk0 : 0 ≤ k0.toInt ∧ k0.toInt ≤ 65535) (hk1 : 0 ≤ k1.toInt ∧ k1.toInt ≤ 65535) (A1 : OA Z h0 b1 .char [k0, k1]) (E0 : Exa Z h0 b0 "java/lang/String") (Fv : Fld Z h0 b0 "java/lang/String" "value" "[B" .null) (Fc : Fld Z h0 b0 "java/lang/String" "coder" "B" (.int (0 : Int32))) (g0 : n0 ≤ b0) :
    OCon l Z (⟨"java/lang/String", "<init>", "([CIILjava/lang/Void;)V"⟩ : MethodName) jdk_42_method_149_code 6 none [] ({ frames := 4, cells := 2, slots := 6, locals := 57 } : Room) #[(.ref b0), (.ref b1), (.int (0 : Int32)), (.int (2 : Int32)), .null] h0 n0 (QV fun h' => Exa Z h' b0 "java/lang/String" ∧ Keep h0 h' [b0] ∧ OSt Z h' cs fm ∧ ∃ r, Fld Z h' b0 "java/lang/String" "value" "[B" (.ref r) ∧ (((k0.toInt ≤ 255 ∧ k1.toInt ≤ 255) ∧ Fld Z h' b0 "java/lang/String" "coder" "B" (.int 0) ∧ OA Z h' r .byte [own_b k0, own_b k1]) ∨ (Fld Z h' b0 "java/lang/String" "coder" "B" (.int 1) ∧ OA Z h' r .byte [own_lo k0, own_hi k0, own_lo k1, own_hi k1]))) := by
  refine OCon.mk (plainFor_of_name own_pn4) Z0 ?_
  intro p e s m below meth cd s₁ W0
  refine OF.cast (own_ef3_2 m b0 b1 (0 : Int32) (2 : Int32)) ?_
  have c_2___Int32_ : (2 : Int32).toInt = 2 := rfl
  refine o_aloadN W0 own_d3_0 (v := (.ref b0)) rfl rfl (pc' := 1) rfl ?_
  refine o_initO W0 (ow hw 16 rfl) (ow hw 17 rfl) (ow hw 18 rfl) rfl (wt := 0) rfl (by decide) (by decide) own_d3_1 (pc' := 4) rfl ?_
  intro T148 W148
  refine o_iloadN W148 own_d3_4 (v := (2 : Int32)) rfl (pc' := 5) rfl ?_
  refine o_if_ne W148 own_d3_5 (by decide) (pq := 27) (by decide) (pc' := 8) rfl (fun hc5 => ?_) (fun hc5 => ?_)
  · refine o_getS W148 (ow hw 46 rfl) ST.1 own_d3_27 (pc' := 30) rfl ?_
    intro T149 W149
    refine o_if_eq W149 own_d3_30 (by decide) (pq := 58) (by decide) (pc' := 33) rfl (fun hc30 => ?_) (fun hc30 => ?_)
    · exact absurd hc30 hcs
    · refine o_aloadN W149 own_d3_33 (v := (.ref b1)) rfl rfl (pc' := 34) rfl ?_
      refine o_iloadN W149 own_d3_34 (v := (0 : Int32)) rfl (pc' := 35) rfl ?_
      refine o_iloadN W149 own_d3_35 (v := (2 : Int32)) rfl (pc' := 36) rfl ?_
      refine o_callSA W149 (rm15_2 l Z a0 hw b1 h0 n0 W149.le cs fm ST k0 k1 hk0 hk1 A1) (ow hw 71 rfl) (ow hw 72 rfl) (ow hw 73 rfl) (ow hw 74 rfl) (by decide) (argsL := [(.ref b1), (.int (0 : Int32)), (.int (2 : Int32))]) (S := []) (lenOf own_pd11 rfl) rfl rfl rfl (wt := 0) rfl (by decide) (by decide) (by decide) (by decide) (kk' := 2) rfl (nn' := 6) rfl own_d3_36 (pc' := 39) rfl ?_
      intro r150 T150 h150 W150 q150 z150
      obtain ⟨gr, KB, ST_150, q150⟩ := q150
      have E_150 := Exa.keep E0 KB
      have Fv_150 := Fld.keep Fv KB nin0
      have Fc_150 := Fld.keep Fc KB nin0
      have KI_150 : Keep h0 h150 [b0] := (Keep.refl h0 [b0]).trans KB (fun x hx => nomatch hx)
      have ne_r150_b0 : r150 ≠ b0 := (Nat.ne_of_lt (Nat.lt_of_lt_of_le E0.lt gr)).symm
      rcases q150 with ⟨hall, AR⟩ | AR
      · refine o_astore W150 (L' := #[.val (.ref b0), .val (.ref b1), .val (.int (0 : Int32)), .val (.int (2 : Int32)), .val .null, .val (.ref r150)]) own_d3_39 rfl rfl (pc' := 41) rfl ?_
        refine o_aloadN W150 own_d3_41 (v := (.ref b0)) rfl rfl (pc' := 42) rfl ?_
        refine o_aload W150 own_d3_42 (v := (.ref r150)) rfl rfl (pc' := 44) rfl ?_
        refine o_iloadN W150 own_d3_44 (v := (2 : Int32)) rfl (pc' := 45) rfl ?_
        refine o_callSI W150 (rm17_2L l Z a0 hw r150 h150 n0 W150.le k0 k1 AR) (ow hw 78 rfl) (ow hw 79 rfl) (ow hw 73 rfl) (ow hw 80 rfl) (by decide) (argsL := [(.ref r150), (.int (2 : Int32))]) (S := [(.ref b0)]) (lenOf own_pd13 rfl) rfl rfl rfl (wt := 1) rfl (by decide) (by decide) (by decide) (by decide) (kk' := 2) rfl (nn' := 6) rfl own_d3_45 (pc' := 48) rfl ?_
        intro r151 T151 h151 W151 q151 z151
        obtain ⟨q151, rfl⟩ := q151
        obtain rfl : r151 = (0 : Int32) := q151
        refine o_putF W151 (ow hw 26 rfl) Fc_150 E_150 (Or.inr ⟨(ow hw 22 rfl), rfl, rfl⟩) (ow hw 7 rfl) (ty := .byte) (by decide) (v' := (.int (nar .byte (0 : Int32)))) rfl (fits_nar_byte _) g0 own_d3_48 (pc' := 51) rfl ?_
        intro T152 h152 W152 R152
        have F_value_b0_152 := Fld.other R152 Fv_150 (Or.inr (slot_ne (Or.inr (ow hw 21 rfl)) (Or.inr (ow hw 22 rfl)) (by decide) (t := (.array .byte)) (t' := .byte) (by decide) (by decide)))
        have F_coder_b0_152 := Fc_150.same R152
        have X_b0_152 := Exa.wr R152 E_150
        have A_r150_152 := AR.keep1 (Keep.of_wr R152) ne_r150_b0
        have ST_152 := ST_150.wr R152
        have K_152 := KI_150.wr R152 (Or.inl (by simp))
        refine o_aloadN W152 own_d3_51 (v := (.ref b0)) rfl rfl (pc' := 52) rfl ?_
        refine o_aload W152 own_d3_52 (v := (.ref r150)) rfl rfl (pc' := 54) rfl ?_
        refine o_putF W152 (ow hw 25 rfl) F_value_b0_152 X_b0_152 (Or.inr ⟨(ow hw 21 rfl), rfl, rfl⟩) (ow hw 7 rfl) (ty := (.array .byte)) (by decide) (v' := (.ref r150)) rfl rfl g0 own_d3_54 (pc' := 57) rfl ?_
        intro T153 h153 W153 R153
        have F_value_b0_153 := F_value_b0_152.same R153
        have F_coder_b0_153 := Fld.other R153 F_coder_b0_152 (Or.inr (slot_ne (Or.inr (ow hw 22 rfl)) (Or.inr (ow hw 21 rfl)) (by decide) (t := .byte) (t' := (.array .byte)) (by decide) (by decide)))
        have X_b0_153 := Exa.wr R153 X_b0_152
        have A_r150_153 := A_r150_152.keep1 (Keep.of_wr R153) ne_r150_b0
        have ST_153 := ST_152.wr R153
        have K_153 := K_152.wr R153 (Or.inl (by simp))
        refine o_retV W153 rfl own_d3_57 (by decide) (by decide) ?_
        exact ⟨rfl, X_b0_153, K_153, ST_153, r150, F_value_b0_153, Or.inl ⟨hall, F_coder_b0_153, A_r150_153⟩⟩
      · refine o_astore W150 (L' := #[.val (.ref b0), .val (.ref b1), .val (.int (0 : Int32)), .val (.int (2 : Int32)), .val .null, .val (.ref r150)]) own_d3_39 rfl rfl (pc' := 41) rfl ?_
        refine o_aloadN W150 own_d3_41 (v := (.ref b0)) rfl rfl (pc' := 42) rfl ?_
        refine o_aload W150 own_d3_42 (v := (.ref r150)) rfl rfl (pc' := 44) rfl ?_
        refine o_iloadN W150 own_d3_44 (v := (2 : Int32)) rfl (pc' := 45) rfl ?_
        refine o_callSI W150 (rm17_2U l Z a0 hw r150 h150 n0 W150.le k0 k1 AR) (ow hw 78 rfl) (ow hw 79 rfl) (ow hw 73 rfl) (ow hw 80 rfl) (by decide) (argsL := [(.ref r150), (.int (2 : Int32))]) (S := [(.ref b0)]) (lenOf own_pd13 rfl) rfl rfl rfl (wt := 1) rfl (by decide) (by decide) (by decide) (by decide) (kk' := 2) rfl (nn' := 6) rfl own_d3_45 (pc' := 48) rfl ?_
        intro r154 T154 h154 W154 q154 z154
        obtain ⟨q154, rfl⟩ := q154
        obtain rfl : r154 = (1 : Int32) := q154
        refine o_putF W154 (ow hw 26 rfl) Fc_150 E_150 (Or.inr ⟨(ow hw 22 rfl), rfl, rfl⟩) (ow hw 7 rfl) (ty := .byte) (by decide) (v' := (.int (nar .byte (1 : Int32)))) rfl (fits_nar_byte _) g0 own_d3_48 (pc' := 51) rfl ?_
        intro T155 h155 W155 R155
        have F_value_b0_155 := Fld.other R155 Fv_150 (Or.inr (slot_ne (Or.inr (ow hw 21 rfl)) (Or.inr (ow hw 22 rfl)) (by decide) (t := (.array .byte)) (t' := .byte) (by decide) (by decide)))
        have F_coder_b0_155 := Fc_150.same R155
        have X_b0_155 := Exa.wr R155 E_150
        have A_r150_155 := AR.keep1 (Keep.of_wr R155) ne_r150_b0
        have ST_155 := ST_150.wr R155
        have K_155 := KI_150.wr R155 (Or.inl (by simp))
        refine o_aloadN W155 own_d3_51 (v := (.ref b0)) rfl rfl (pc' := 52) rfl ?_
        refine o_aload W155 own_d3_52 (v := (.ref r150)) rfl rfl (pc' := 54) rfl ?_
        refine o_putF W155 (ow hw 25 rfl) F_value_b0_155 X_b0_155 (Or.inr ⟨(ow hw 21 rfl), rfl, rfl⟩) (ow hw 7 rfl) (ty := (.array .byte)) (by decide) (v' := (.ref r150)) rfl rfl g0 own_d3_54 (pc' := 57) rfl ?_
        intro T156 h156 W156 R156
        have F_value_b0_156 := F_value_b0_155.same R156
        have F_coder_b0_156 := Fld.other R156 F_coder_b0_155 (Or.inr (slot_ne (Or.inr (ow hw 22 rfl)) (Or.inr (ow hw 21 rfl)) (by decide) (t := .byte) (t' := (.array .byte)) (by decide) (by decide)))
        have X_b0_156 := Exa.wr R156 X_b0_155
        have A_r150_156 := A_r150_155.keep1 (Keep.of_wr R156) ne_r150_b0
        have ST_156 := ST_155.wr R156
        have K_156 := K_155.wr R156 (Or.inl (by simp))
        refine o_retV W156 rfl own_d3_57 (by decide) (by decide) ?_
        exact ⟨rfl, X_b0_156, K_156, ST_156, r150, F_value_b0_156, Or.inr ⟨F_coder_b0_156, A_r150_156⟩⟩
  · exact absurd hc5 (by decide)
theorem own_ef2_2 (m : MethodId) (z0 : Addr) (z1 : Addr) : entryFrame m #[(.ref z0), (.ref z1)] 2 = mkF m 0 #[.val (.ref z0), .val (.ref z1)] [] := by first | (simp [entryFrame, mkF, argsToLocals, Value.category]; done) | rfl
set_option maxRecDepth 65536 in
set_option maxHeartbeats 4000000 in
theorem rm2_2 (l : Launch) (Z : State) (a0 : Array Value) (hw : ∀ d ∈ tables_1, d.before a0 Z = true) (b0 : Addr) (b1 : Addr) (h0 : Heap) (n0 : Nat) (Z0 : n0 ≤ h0.size) (cs : Int32) (fm : Value) (ST : OSt Z h0 cs fm) (hcs : ¬ cs.toInt = 0) (k0 k1 : Int32) (hk0 : 0 ≤ k0.toInt ∧ k0.toInt ≤ 65535) (hk1 : 0 ≤ k1.toInt ∧ k1.toInt ≤ 65535) (A1 : OA Z h0 b1 .char [k0, k1]) (E0 : Exa Z h0 b0 "java/lang/String") (Fv : Fld Z h0 b0 "java/lang/String" "value" "[B" .null) (Fc : Fld Z h0 b0 "java/lang/String" "coder" "B" (.int (0 : Int32))) (g0 : n0 ≤ b0) :
    OCon l Z (⟨"java/lang/String", "<init>", "([C)V"⟩ : MethodName) jdk_42_method_3_code 2 none [] ({ frames := 5, cells := 2, slots := 6, locals := 74 } : Room) #[(.ref b0), (.ref b1)] h0 n0 (QV fun h' => Exa Z h' b0 "java/lang/String" ∧ Keep h0 h' [b0] ∧ OSt Z h' cs fm ∧ ∃ r, Fld Z h' b0 "java/lang/String" "value" "[B" (.ref r) ∧ (((k0.toInt ≤ 255 ∧ k1.toInt ≤ 255) ∧ Fld Z h' b0 "java/lang/String" "coder" "B" (.int 0) ∧ OA Z h' r .byte [own_b k0, own_b k1]) ∨ (Fld Z h' b0 "java/lang/String" "coder" "B" (.int 1) ∧ OA Z h' r .byte [own_lo k0, own_hi k0, own_lo k1, own_hi k1]))) := by
  refine OCon.mk (plainFor_of_name own_pn4) Z0 ?_
  intro p e s m below meth cd s₁ W0
  refine OF.cast (own_ef2_2 m b0 b1) ?_
  refine o_aloadN W0 own_d2_0 (v := (.ref b0)) rfl rfl (pc' := 1) rfl ?_
  refine o_aloadN W0 own_d2_1 (v := (.ref b1)) rfl rfl (pc' := 2) rfl ?_
  refine o_iconst W0 (v := (0 : Int32)) own_d2_2 rfl (pc' := 3) rfl ?_
  refine o_aloadN W0 own_d2_3 (v := (.ref b1)) rfl rfl (pc' := 4) rfl ?_
  refine o_arraylength W0 A1 own_d2_4 (pc' := 5) rfl ?_
  intro v157 hv157
  obtain rfl : v157 = (2 : Int32) := o_eq (y := (2 : Int32)) hv157
  refine o_aconstNull W0 own_d2_5 (pc' := 6) rfl ?_
  refine o_callC W0 (rm3_2 l Z a0 hw b0 b1 h0 n0 W0.le cs fm ST hcs k0 k1 hk0 hk1 A1 E0 Fv Fc g0) rfl (ow hw 12 rfl) (ow hw 13 rfl) (ow hw 8 rfl) (ow hw 15 rfl) (by decide) (argsL := [(.ref b1), (.int (0 : Int32)), (.int (2 : Int32)), .null]) (S := []) (lenOf own_pd14 rfl) rfl rfl rfl (wt := 0) rfl (by decide) (by decide) (by decide) (by decide) (kk' := 2) rfl (nn' := 6) rfl own_d2_6 (pc' := 9) rfl ?_
  intro T158 h158 W158 q158 z158
  refine o_retV W158 rfl own_d2_9 (by decide) (by decide) ?_
  exact ⟨rfl, q158⟩
theorem own_ef9_2L (m : MethodId) (z0 : Addr) : entryFrame m #[(.ref z0)] 1 = mkF m 0 #[.val (.ref z0)] [] := by first | (simp [entryFrame, mkF, argsToLocals, Value.category]; done) | rfl
set_option maxRecDepth 65536 in
set_option maxHeartbeats 4000000 in
theorem rm9_2L (l : Launch) (Z : State) (a0 : Array Value) (hw : ∀ d ∈ tables_1, d.before a0 Z = true) (b0 : Addr) (h0 : Heap) (n0 : Nat) (Z0 : n0 ≤ h0.size) (cs : Int32) (fm : Value) (ST : OSt Z h0 cs fm) (hcs : ¬ cs.toInt = 0) (k0 k1 : Int32) (b1 : Addr) (E0 : Exa Z h0 b0 "java/lang/String") (Fv : Fld Z h0 b0 "java/lang/String" "value" "[B" (.ref b1)) (Fc : Fld Z h0 b0 "java/lang/String" "coder" "B" (.int (0 : Int32))) (A1 : OA Z h0 b1 .byte [own_b k0, own_b k1]) :
    OCon l Z (⟨"java/lang/String", "length", "()I"⟩ : MethodName) jdk_42_method_54_code 1 (some .int) [] ({ frames := 1, cells := 0, slots := 0, locals := 13 } : Room) #[(.ref b0)] h0 n0 (QI fun r h' => r = (2 : Int32) ∧ h0 = h') := by
  refine OCon.mk (plainFor_of_name own_pn4) Z0 ?_
  intro p e s m below meth cd s₁ W0
  refine OF.cast (own_ef9_2L m b0) ?_
  refine o_aloadN W0 own_d9_0 (v := (.ref b0)) rfl rfl (pc' := 1) rfl ?_
  refine o_getF W0 (ow hw 25 rfl) Fv own_d9_1 (pc' := 4) rfl ?_
  intro T159 W159
  refine o_arraylength W159 A1 own_d9_4 (pc' := 5) rfl ?_
  intro v160 hv160
  obtain rfl : v160 = (2 : Int32) := o_eq (y := (2 : Int32)) hv160
  refine o_aloadN W159 own_d9_5 (v := (.ref b0)) rfl rfl (pc' := 6) rfl ?_
  refine o_callV W159 E0 (rm10_L l Z a0 hw b0 h0 n0 W159.le cs fm ST hcs Fc) (ow hw 52 rfl) (ow hw 53 rfl) (notFace_of_selects (args := #[]) (mvT W159.hZ (ow hw 55 rfl))) (ow hw 55 rfl) (ow hw 54 rfl) (ow hw 8 rfl) (ow hw 56 rfl) (by decide) (argsL := []) (S := [(.int (2 : Int32))]) (lenOf own_pd1 rfl) rfl rfl rfl (wt := 1) rfl (by decide) (by decide) (by decide) (by decide) (kk' := 0) rfl (nn' := 0) rfl own_d9_6 (pc' := 9) rfl ?_
  intro vv T161 h161 W161 q161 z161
  obtain ⟨r161, rfl, q161⟩ := q161
  show OF _ _ _ _ _ _ _ T161 (mkF m 9 #[.val (.ref b0)] [(.int r161), (.int (2 : Int32))])
  obtain ⟨q161, rfl⟩ := q161
  obtain rfl : r161 = (0 : Int32) := q161
  refine o_ishr W161 own_d9_9 (pc' := 10) rfl ?_
  show OF _ _ _ _ _ _ _ T161 (mkF m 10 #[.val (.ref b0)] [(.int (2 : Int32))])
  refine o_retI W161 rfl own_d9_10 (by decide) (by decide) ?_
  exact ⟨_, rfl, rfl, rfl⟩
theorem own_ef19_2 (m : MethodId) (z0 : Addr) (z1 : Int32) (z2 : Int32) (z3 : Int32) : entryFrame m #[(.ref z0), (.int z1), (.int z2), (.int z3)] 6 = mkF m 0 #[.val (.ref z0), .val (.int z1), .val (.int z2), .val (.int z3), .unset, .unset] [] := by first | (simp [entryFrame, mkF, argsToLocals, Value.category]; done) | rfl
set_option maxRecDepth 65536 in
set_option maxHeartbeats 4000000 in
theorem rm19_2 (l : Launch) (Z : State) (a0 : Array Value) (hw : ∀ d ∈ tables_1, d.before a0 Z = true) (b1 : Addr) (y1 : Int32) (h0 : Heap) (n0 : Nat) (Z0 : n0 ≤ h0.size) (hy : 0 ≤ y1.toInt ∧ y1.toInt < 128) (k0 k1 : Int32) (hk0 : 0 ≤ k0.toInt ∧ k0.toInt ≤ 65535) (hk1 : 0 ≤ k1.toInt ∧ k1.toInt ≤ 65535) (hall : k0.toInt ≤ 255 ∧ k1.toInt ≤ 255) (A1 : OA Z h0 b1 .byte [own_b k0, own_b k1]) :
    OCon l Z (⟨"java/lang/StringLatin1", "indexOfChar", "([BIII)I"⟩ : MethodName) jdk_43_method_23_code 6 (some .int) [] ({ frames := 0, cells := 0, slots := 0, locals := 0 } : Room) #[(.ref b1), (.int y1), (.int (0 : Int32)), (.int (2 : Int32))] h0 n0 (QI fun r h' => ((0 ≤ r.toInt ∧ (k0.toInt = y1.toInt ∨ k1.toInt = y1.toInt)) ∨ (r.toInt < 0 ∧ ¬ (k0.toInt = y1.toInt ∨ k1.toInt = y1.toInt))) ∧ h0 = h') := by
  refine OCon.mk (plainFor_of_name own_pn1) Z0 ?_
  intro p e s m below meth cd s₁ W0
  refine OF.cast (own_ef19_2 m b1 y1 (0 : Int32) (2 : Int32)) ?_
  have cm1 : (-1 : Int32).toInt = -1 := rfl
  have ci0 : (0 : Int32).toInt = 0 := rfl
  have ci1 : (1 : Int32).toInt = 1 := rfl
  have ci2 : (2 : Int32).toInt = 2 := rfl
  have ci3 : (3 : Int32).toInt = 3 := rfl
  have ci4 : (4 : Int32).toInt = 4 := rfl
  refine o_iloadN W0 own_d19_0 (v := y1) rfl (pc' := 1) rfl ?_
  refine o_i2b W0 own_d19_1 (pc' := 2) rfl ?_
  refine o_istoreG W0 (Lf := fun v162 => #[.val (.ref b1), .val (.int y1), .val (.int (0 : Int32)), .val (.int (2 : Int32)), .val (.int v162), .unset]) own_d19_2 rfl (pc' := 4) rfl ?_
  intro v162 hv162
  have hb0 := own_bcmp k0 y1 hk0.1 (by omega) hy.1 hy.2
  rw [← hv162] at hb0
  have hb1 := own_bcmp k1 y1 hk1.1 (by omega) hy.1 hy.2
  rw [← hv162] at hb1
  refine o_iloadN W0 own_d19_4 (v := (0 : Int32)) rfl (pc' := 5) rfl ?_
  refine o_istore W0 (L' := #[.val (.ref b1), .val (.int y1), .val (.int (0 : Int32)), .val (.int (2 : Int32)), .val (.int v162), .val (.int (0 : Int32))]) own_d19_5 rfl (pc' := 7) rfl ?_
  refine o_iload W0 own_d19_7 (v := (0 : Int32)) rfl (pc' := 9) rfl ?_
  refine o_iloadN W0 own_d19_9 (v := (2 : Int32)) rfl (pc' := 10) rfl ?_
  refine o_icmp_ge W0 own_d19_10 (by decide) (pq := 31) (by decide) (pc' := 13) rfl (fun hc10 => ?_) (fun hc10 => ?_)
  · exact absurd hc10 (by decide)
  · refine o_aloadN W0 own_d19_13 (v := (.ref b1)) rfl rfl (pc' := 14) rfl ?_
    refine o_iload W0 own_d19_14 (v := (0 : Int32)) rfl (pc' := 16) rfl ?_
    refine o_baload W0 A1 own_d19_16 (pc' := 17) rfl (i := 0) (v := own_b k0) rfl rfl ?_
    refine o_iload W0 own_d19_17 (v := v162) rfl (pc' := 19) rfl ?_
    refine o_icmp_ne W0 own_d19_19 (by decide) (pq := 25) (by decide) (pc' := 22) rfl (fun hc19 => ?_) (fun hc19 => ?_)
    · refine o_iinc W0 (x := (0 : Int32)) (L' := #[.val (.ref b1), .val (.int y1), .val (.int (0 : Int32)), .val (.int (2 : Int32)), .val (.int v162), .val (.int ((0 : Int32) + (1 : Int32)))]) own_d19_25 rfl rfl (pc' := 28) rfl ?_
      show OF _ _ _ _ _ _ _ s₁ (mkF m 28 #[.val (.ref b1), .val (.int y1), .val (.int (0 : Int32)), .val (.int (2 : Int32)), .val (.int v162), .val (.int (1 : Int32))] [])
      refine o_goto W0 own_d19_28 (by decide) (pq := 7) (by decide) ?_
      refine o_iload W0 own_d19_7 (v := (1 : Int32)) rfl (pc' := 9) rfl ?_
      refine o_iloadN W0 own_d19_9 (v := (2 : Int32)) rfl (pc' := 10) rfl ?_
      refine o_icmp_ge W0 own_d19_10 (by decide) (pq := 31) (by decide) (pc' := 13) rfl (fun hc10 => ?_) (fun hc10 => ?_)
      · exact absurd hc10 (by decide)
      · refine o_aloadN W0 own_d19_13 (v := (.ref b1)) rfl rfl (pc' := 14) rfl ?_
        refine o_iload W0 own_d19_14 (v := (1 : Int32)) rfl (pc' := 16) rfl ?_
        refine o_baload W0 A1 own_d19_16 (pc' := 17) rfl (i := 1) (v := own_b k1) rfl rfl ?_
        refine o_iload W0 own_d19_17 (v := v162) rfl (pc' := 19) rfl ?_
        refine o_icmp_ne W0 own_d19_19 (by decide) (pq := 25) (by decide) (pc' := 22) rfl (fun hc19 => ?_) (fun hc19 => ?_)
        · refine o_iinc W0 (x := (1 : Int32)) (L' := #[.val (.ref b1), .val (.int y1), .val (.int (0 : Int32)), .val (.int (2 : Int32)), .val (.int v162), .val (.int ((1 : Int32) + (1 : Int32)))]) own_d19_25 rfl rfl (pc' := 28) rfl ?_
          show OF _ _ _ _ _ _ _ s₁ (mkF m 28 #[.val (.ref b1), .val (.int y1), .val (.int (0 : Int32)), .val (.int (2 : Int32)), .val (.int v162), .val (.int (2 : Int32))] [])
          refine o_goto W0 own_d19_28 (by decide) (pq := 7) (by decide) ?_
          refine o_iload W0 own_d19_7 (v := (2 : Int32)) rfl (pc' := 9) rfl ?_
          refine o_iloadN W0 own_d19_9 (v := (2 : Int32)) rfl (pc' := 10) rfl ?_
          refine o_icmp_ge W0 own_d19_10 (by decide) (pq := 31) (by decide) (pc' := 13) rfl (fun hc10 => ?_) (fun hc10 => ?_)
          · refine o_iconst W0 (v := (-1 : Int32)) own_d19_31 rfl (pc' := 32) rfl ?_
            refine o_retI W0 rfl own_d19_32 (by decide) (by decide) ?_
            exact ⟨_, rfl, by omega, rfl⟩
          · exact absurd hc10 (by decide)
        · refine o_iload W0 own_d19_22 (v := (1 : Int32)) rfl (pc' := 24) rfl ?_
          refine o_retI W0 rfl own_d19_24 (by decide) (by decide) ?_
          exact ⟨_, rfl, by omega, rfl⟩
    · refine o_iload W0 own_d19_22 (v := (0 : Int32)) rfl (pc' := 24) rfl ?_
      refine o_retI W0 rfl own_d19_24 (by decide) (by decide) ?_
      exact ⟨_, rfl, by omega, rfl⟩
theorem own_ef11_2 (m : MethodId) (z0 : Addr) (z1 : Int32) (z2 : Int32) (z3 : Int32) : entryFrame m #[(.ref z0), (.int z1), (.int z2), (.int z3)] 4 = mkF m 0 #[.val (.ref z0), .val (.int z1), .val (.int z2), .val (.int z3)] [] := by first | (simp [entryFrame, mkF, argsToLocals, Value.category]; done) | rfl
set_option maxRecDepth 65536 in
set_option maxHeartbeats 4000000 in
theorem rm11_2 (l : Launch) (Z : State) (a0 : Array Value) (hw : ∀ d ∈ tables_1, d.before a0 Z = true) (b1 : Addr) (y1 : Int32) (h0 : Heap) (n0 : Nat) (Z0 : n0 ≤ h0.size) (hy : 0 ≤ y1.toInt ∧ y1.toInt < 128) (k0 k1 : Int32) (hk0 : 0 ≤ k0.toInt ∧ k0.toInt ≤ 65535) (hk1 : 0 ≤ k1.toInt ∧ k1.toInt ≤ 65535) (hall : k0.toInt ≤ 255 ∧ k1.toInt ≤ 255) (A1 : OA Z h0 b1 .byte [own_b k0, own_b k1]) :
    OCon l Z (⟨"java/lang/StringLatin1", "indexOf", "([BIII)I"⟩ : MethodName) jdk_43_method_22_code 4 (some .int) [] ({ frames := 1, cells := 0, slots := 0, locals := 17 } : Room) #[(.ref b1), (.int y1), (.int (0 : Int32)), (.int (2 : Int32))] h0 n0 (QI fun r h' => ((0 ≤ r.toInt ∧ (k0.toInt = y1.toInt ∨ k1.toInt = y1.toInt)) ∨ (r.toInt < 0 ∧ ¬ (k0.toInt = y1.toInt ∨ k1.toInt = y1.toInt))) ∧ h0 = h') := by
  refine OCon.mk (plainFor_of_name own_pn1) Z0 ?_
  intro p e s m below meth cd s₁ W0
  refine OF.cast (own_ef11_2 m b1 y1 (0 : Int32) (2 : Int32)) ?_
  have cm1 : (-1 : Int32).toInt = -1 := rfl
  have ci0 : (0 : Int32).toInt = 0 := rfl
  have ci1 : (1 : Int32).toInt = 1 := rfl
  have ci2 : (2 : Int32).toInt = 2 := rfl
  have ci3 : (3 : Int32).toInt = 3 := rfl
  have ci4 : (4 : Int32).toInt = 4 := rfl
  refine o_iloadN W0 own_d11_0 (v := y1) rfl (pc' := 1) rfl ?_
  refine o_callSI W0 (rm12 l Z a0 hw y1 h0 n0 W0.le (by omega)) (ow hw 61 rfl) (ow hw 62 rfl) (ow hw 59 rfl) (ow hw 63 rfl) (by decide) (argsL := [(.int y1)]) (S := []) (lenOf own_pd2 rfl) rfl rfl rfl (wt := 0) rfl (by decide) (by decide) (by decide) (by decide) (kk' := 0) rfl (nn' := 0) rfl own_d11_1 (pc' := 4) rfl ?_
  intro r163 T163 h163 W163 q163 z163
  obtain ⟨q163, rfl⟩ := q163
  obtain rfl : r163 = 1 := q163
  refine o_if_ne W163 own_d11_4 (by decide) (pq := 9) (by decide) (pc' := 7) rfl (fun hc4 => ?_) (fun hc4 => ?_)
  · refine o_iloadN W163 own_d11_9 (v := (0 : Int32)) rfl (pc' := 10) rfl ?_
    refine o_iconst W163 (v := (0 : Int32)) own_d11_10 rfl (pc' := 11) rfl ?_
    refine o_callSI W163 (rm13 l Z a0 hw (0 : Int32) (0 : Int32) h0 n0 W163.le) (ow hw 64 rfl) (ow hw 65 rfl) (ow hw 66 rfl) (ow hw 67 rfl) (by decide) (argsL := [(.int (0 : Int32)), (.int (0 : Int32))]) (S := []) (lenOf own_pd3 rfl) rfl rfl rfl (wt := 0) rfl (by decide) (by decide) (by decide) (by decide) (kk' := 0) rfl (nn' := 0) rfl own_d11_11 (pc' := 14) rfl ?_
    intro r164 T164 h164 W164 q164 z164
    obtain ⟨q164, rfl⟩ := q164
    obtain rfl : r164 = (0 : Int32) := by
      rcases q164 with ⟨_, q⟩ | ⟨_, q⟩ <;> exact q
    refine o_istoreN W164 (L' := #[.val (.ref b1), .val (.int y1), .val (.int (0 : Int32)), .val (.int (2 : Int32))]) own_d11_14 rfl (pc' := 15) rfl ?_
    refine o_iloadN W164 own_d11_15 (v := (2 : Int32)) rfl (pc' := 16) rfl ?_
    refine o_aloadN W164 own_d11_16 (v := (.ref b1)) rfl rfl (pc' := 17) rfl ?_
    refine o_arraylength W164 A1 own_d11_17 (pc' := 18) rfl ?_
    intro v165 hv165
    obtain rfl : v165 = (2 : Int32) := o_eq (y := (2 : Int32)) hv165
    refine o_callSI W164 (rm14 l Z a0 hw (2 : Int32) (2 : Int32) h0 n0 W164.le) (ow hw 68 rfl) (ow hw 69 rfl) (ow hw 66 rfl) (ow hw 70 rfl) (by decide) (argsL := [(.int (2 : Int32)), (.int (2 : Int32))]) (S := []) (lenOf own_pd3 rfl) rfl rfl rfl (wt := 0) rfl (by decide) (by decide) (by decide) (by decide) (kk' := 0) rfl (nn' := 0) rfl own_d11_18 (pc' := 21) rfl ?_
    intro r166 T166 h166 W166 q166 z166
    obtain ⟨q166, rfl⟩ := q166
    obtain rfl : r166 = (2 : Int32) := by
      rcases q166 with ⟨_, q⟩ | ⟨_, q⟩ <;> exact q
    refine o_istoreN W166 (L' := #[.val (.ref b1), .val (.int y1), .val (.int (0 : Int32)), .val (.int (2 : Int32))]) own_d11_21 rfl (pc' := 22) rfl ?_
    refine o_iloadN W166 own_d11_22 (v := (0 : Int32)) rfl (pc' := 23) rfl ?_
    refine o_iloadN W166 own_d11_23 (v := (2 : Int32)) rfl (pc' := 24) rfl ?_
    refine o_icmp_lt W166 own_d11_24 (by decide) (pq := 29) (by decide) (pc' := 27) rfl (fun hc24 => ?_) (fun hc24 => ?_)
    · refine o_aloadN W166 own_d11_29 (v := (.ref b1)) rfl rfl (pc' := 30) rfl ?_
      refine o_iloadN W166 own_d11_30 (v := y1) rfl (pc' := 31) rfl ?_
      refine o_iloadN W166 own_d11_31 (v := (0 : Int32)) rfl (pc' := 32) rfl ?_
      refine o_iloadN W166 own_d11_32 (v := (2 : Int32)) rfl (pc' := 33) rfl ?_
      refine o_callSI W166 (rm19_2 l Z a0 hw b1 y1 h0 n0 W166.le hy k0 k1 hk0 hk1 hall A1) (ow hw 84 rfl) (ow hw 85 rfl) (ow hw 59 rfl) (ow hw 86 rfl) (by decide) (argsL := [(.ref b1), (.int y1), (.int (0 : Int32)), (.int (2 : Int32))]) (S := []) (lenOf own_pd6 rfl) rfl rfl rfl (wt := 0) rfl (by decide) (by decide) (by decide) (by decide) (kk' := 0) rfl (nn' := 0) rfl own_d11_33 (pc' := 36) rfl ?_
      intro r167 T167 h167 W167 q167 z167
      obtain ⟨q167, rfl⟩ := q167
      refine o_retI W167 rfl own_d11_36 (by decide) (by decide) ?_
      exact ⟨_, rfl, q167, rfl⟩
    · exact absurd hc24 (by decide)
  · exact absurd hc4 (by decide)
theorem own_ef7_2L (m : MethodId) (z0 : Addr) (z1 : Int32) (z2 : Int32) : entryFrame m #[(.ref z0), (.int z1), (.int z2)] 3 = mkF m 0 #[.val (.ref z0), .val (.int z1), .val (.int z2)] [] := by first | (simp [entryFrame, mkF, argsToLocals, Value.category]; done) | rfl
set_option maxRecDepth 65536 in
set_option maxHeartbeats 4000000 in
theorem rm7_2L (l : Launch) (Z : State) (a0 : Array Value) (hw : ∀ d ∈ tables_1, d.before a0 Z = true) (b0 : Addr) (y1 : Int32) (h0 : Heap) (n0 : Nat) (Z0 : n0 ≤ h0.size) (hy : 0 ≤ y1.toInt ∧ y1.toInt < 128) (cs : Int32) (fm : Value) (ST : OSt Z h0 cs fm) (hcs : ¬ cs.toInt = 0) (hfm : fm.isRef = true) (k0 k1 : Int32) (hk0 : 0 ≤ k0.toInt ∧ k0.toInt ≤ 65535) (hk1 : 0 ≤ k1.toInt ∧ k1.toInt ≤ 65535) (hall : k0.toInt ≤ 255 ∧ k1.toInt ≤ 255) (b1 : Addr) (E0 : Exa Z h0 b0 "java/lang/String") (Fv : Fld Z h0 b0 "java/lang/String" "value" "[B" (.ref b1)) (Fc : Fld Z h0 b0 "java/lang/String" "coder" "B" (.int (0 : Int32))) (A1 : OA Z h0 b1 .byte [own_b k0, own_b k1]) :
    OCon l Z (⟨"java/lang/String", "indexOf", "(II)I"⟩ : MethodName) jdk_42_method_80_code 3 (some .int) [] ({ frames := 5, cells := 0, slots := 0, locals := 73 } : Room) #[(.ref b0), (.int y1), (.int (0 : Int32))] h0 n0 (QI fun r h' => ((0 ≤ r.toInt ∧ (k0.toInt = y1.toInt ∨ k1.toInt = y1.toInt)) ∨ (r.toInt < 0 ∧ ¬ (k0.toInt = y1.toInt ∨ k1.toInt = y1.toInt))) ∧ h0 = h') := by
  refine OCon.mk (plainFor_of_name own_pn4) Z0 ?_
  intro p e s m below meth cd s₁ W0
  refine OF.cast (own_ef7_2L m b0 y1 (0 : Int32)) ?_
  have c_1___Int32_ : (1 : Int32).toInt = 1 := rfl
  refine o_aloadN W0 own_d7_0 (v := (.ref b0)) rfl rfl (pc' := 1) rfl ?_
  refine o_callV W0 E0 (rm8_L l Z a0 hw b0 h0 n0 W0.le cs fm ST hcs Fc) (ow hw 41 rfl) (ow hw 42 rfl) (notFace_of_selects (args := #[]) (mvT W0.hZ (ow hw 44 rfl))) (ow hw 44 rfl) (ow hw 43 rfl) (ow hw 8 rfl) (ow hw 45 rfl) (by decide) (argsL := []) (S := []) (lenOf own_pd4 rfl) rfl rfl rfl (wt := 0) rfl (by decide) (by decide) (by decide) (by decide) (kk' := 0) rfl (nn' := 0) rfl own_d7_1 (pc' := 4) rfl ?_
  intro vv T168 h168 W168 q168 z168
  obtain ⟨r168, rfl, q168⟩ := q168
  show OF _ _ _ _ _ _ _ T168 (mkF m 4 #[.val (.ref b0), .val (.int y1), .val (.int (0 : Int32))] [(.int r168)])
  obtain ⟨q168, rfl⟩ := q168
  obtain rfl : r168 = (1 : Int32) := q168
  refine o_if_eq W168 own_d7_4 (by decide) (pq := 23) (by decide) (pc' := 7) rfl (fun hc4 => ?_) (fun hc4 => ?_)
  · exact absurd hc4 (by decide)
  · refine o_aloadN W168 own_d7_7 (v := (.ref b0)) rfl rfl (pc' := 8) rfl ?_
    refine o_getF W168 (ow hw 25 rfl) Fv own_d7_8 (pc' := 11) rfl ?_
    intro T169 W169
    refine o_iloadN W169 own_d7_11 (v := y1) rfl (pc' := 12) rfl ?_
    refine o_iloadN W169 own_d7_12 (v := (0 : Int32)) rfl (pc' := 13) rfl ?_
    refine o_aloadN W169 own_d7_13 (v := (.ref b0)) rfl rfl (pc' := 14) rfl ?_
    refine o_callV W169 E0 (rm9_2L l Z a0 hw b0 h0 n0 W169.le cs fm ST hcs k0 k1 b1 E0 Fv Fc A1) (ow hw 47 rfl) (ow hw 48 rfl) (notFace_of_selects (args := #[]) (mvT W169.hZ (ow hw 50 rfl))) (ow hw 50 rfl) (ow hw 49 rfl) (ow hw 8 rfl) (ow hw 51 rfl) (by decide) (argsL := []) (S := [(.int (0 : Int32)), (.int y1), (.ref b1)]) (lenOf own_pd5 rfl) rfl rfl rfl (wt := 3) rfl (by decide) (by decide) (by decide) (by decide) (kk' := 0) rfl (nn' := 0) rfl own_d7_14 (pc' := 17) rfl ?_
    intro vv T170 h170 W170 q170 z170
    obtain ⟨r170, rfl, q170⟩ := q170
    show OF _ _ _ _ _ _ _ T170 (mkF m 17 #[.val (.ref b0), .val (.int y1), .val (.int (0 : Int32))] [(.int r170), (.int (0 : Int32)), (.int y1), (.ref b1)])
    obtain ⟨q170, rfl⟩ := q170
    obtain rfl : r170 = (2 : Int32) := q170
    refine o_callSI W170 (rm11_2 l Z a0 hw b1 y1 h0 n0 W170.le hy k0 k1 hk0 hk1 hall A1) (ow hw 57 rfl) (ow hw 58 rfl) (ow hw 59 rfl) (ow hw 60 rfl) (by decide) (argsL := [(.ref b1), (.int y1), (.int (0 : Int32)), (.int (2 : Int32))]) (S := []) (lenOf own_pd6 rfl) rfl rfl rfl (wt := 0) rfl (by decide) (by decide) (by decide) (by decide) (kk' := 0) rfl (nn' := 0) rfl own_d7_17 (pc' := 20) rfl ?_
    intro r171 T171 h171 W171 q171 z171
    obtain ⟨q171, rfl⟩ := q171
    refine o_goto W171 own_d7_20 (by decide) (pq := 36) (by decide) ?_
    refine o_retI W171 rfl own_d7_36 (by decide) (by decide) ?_
    exact ⟨_, rfl, q171, rfl⟩
theorem own_ef6_2L (m : MethodId) (z0 : Addr) (z1 : Int32) : entryFrame m #[(.ref z0), (.int z1)] 2 = mkF m 0 #[.val (.ref z0), .val (.int z1)] [] := by first | (simp [entryFrame, mkF, argsToLocals, Value.category]; done) | rfl
set_option maxRecDepth 65536 in
set_option maxHeartbeats 4000000 in
theorem rm6_2L (l : Launch) (Z : State) (a0 : Array Value) (hw : ∀ d ∈ tables_1, d.before a0 Z = true) (b0 : Addr) (y1 : Int32) (h0 : Heap) (n0 : Nat) (Z0 : n0 ≤ h0.size) (hy : 0 ≤ y1.toInt ∧ y1.toInt < 128) (cs : Int32) (fm : Value) (ST : OSt Z h0 cs fm) (hcs : ¬ cs.toInt = 0) (hfm : fm.isRef = true) (k0 k1 : Int32) (hk0 : 0 ≤ k0.toInt ∧ k0.toInt ≤ 65535) (hk1 : 0 ≤ k1.toInt ∧ k1.toInt ≤ 65535) (hall : k0.toInt ≤ 255 ∧ k1.toInt ≤ 255) (b1 : Addr) (E0 : Exa Z h0 b0 "java/lang/String") (Fv : Fld Z h0 b0 "java/lang/String" "value" "[B" (.ref b1)) (Fc : Fld Z h0 b0 "java/lang/String" "coder" "B" (.int (0 : Int32))) (A1 : OA Z h0 b1 .byte [own_b k0, own_b k1]) :
    OCon l Z (⟨"java/lang/String", "indexOf", "(I)I"⟩ : MethodName) jdk_42_method_79_code 2 (some .int) [] ({ frames := 6, cells := 0, slots := 0, locals := 87 } : Room) #[(.ref b0), (.int y1)] h0 n0 (QI fun r h' => ((0 ≤ r.toInt ∧ (k0.toInt = y1.toInt ∨ k1.toInt = y1.toInt)) ∨ (r.toInt < 0 ∧ ¬ (k0.toInt = y1.toInt ∨ k1.toInt = y1.toInt))) ∧ h0 = h') := by
  refine OCon.mk (plainFor_of_name own_pn4) Z0 ?_
  intro p e s m below meth cd s₁ W0
  refine OF.cast (own_ef6_2L m b0 y1) ?_
  refine o_aloadN W0 own_d6_0 (v := (.ref b0)) rfl rfl (pc' := 1) rfl ?_
  refine o_iloadN W0 own_d6_1 (v := y1) rfl (pc' := 2) rfl ?_
  refine o_iconst W0 (v := (0 : Int32)) own_d6_2 rfl (pc' := 3) rfl ?_
  refine o_callV W0 E0 (rm7_2L l Z a0 hw b0 y1 h0 n0 W0.le hy cs fm ST hcs hfm k0 k1 hk0 hk1 hall b1 E0 Fv Fc A1) (ow hw 36 rfl) (ow hw 37 rfl) (notFace_of_selects (args := #[]) (mvT W0.hZ (ow hw 39 rfl))) (ow hw 39 rfl) (ow hw 38 rfl) (ow hw 8 rfl) (ow hw 40 rfl) (by decide) (argsL := [(.int y1), (.int (0 : Int32))]) (S := []) (lenOf own_pd3 rfl) rfl rfl rfl (wt := 0) rfl (by decide) (by decide) (by decide) (by decide) (kk' := 0) rfl (nn' := 0) rfl own_d6_3 (pc' := 6) rfl ?_
  intro vv T172 h172 W172 q172 z172
  obtain ⟨r172, rfl, q172⟩ := q172
  show OF _ _ _ _ _ _ _ T172 (mkF m 6 #[.val (.ref b0), .val (.int y1)] [(.int r172)])
  obtain ⟨q172, rfl⟩ := q172
  refine o_retI W172 rfl own_d6_6 (by decide) (by decide) ?_
  exact ⟨_, rfl, q172, rfl⟩
theorem own_ef5_2L (m : MethodId) (z0 : Addr) : entryFrame m #[(.ref z0)] 1 = mkF m 0 #[.val (.ref z0)] [] := by first | (simp [entryFrame, mkF, argsToLocals, Value.category]; done) | rfl
set_option maxRecDepth 65536 in
set_option maxHeartbeats 4000000 in
theorem rm5_2L (l : Launch) (Z : State) (a0 : Array Value) (hw : ∀ d ∈ tables_1, d.before a0 Z = true) (b0 : Addr) (h0 : Heap) (n0 : Nat) (Z0 : n0 ≤ h0.size) (cs : Int32) (fm : Value) (ST : OSt Z h0 cs fm) (hcs : ¬ cs.toInt = 0) (hfm : fm.isRef = true) (k0 k1 : Int32) (hk0 : 0 ≤ k0.toInt ∧ k0.toInt ≤ 65535) (hk1 : 0 ≤ k1.toInt ∧ k1.toInt ≤ 65535) (hall : k0.toInt ≤ 255 ∧ k1.toInt ≤ 255) (b1 : Addr) (E0 : Exa Z h0 b0 "java/lang/String") (Fv : Fld Z h0 b0 "java/lang/String" "value" "[B" (.ref b1)) (Fc : Fld Z h0 b0 "java/lang/String" "coder" "B" (.int (0 : Int32))) (A1 : OA Z h0 b1 .byte [own_b k0, own_b k1]) :
    OCon l Z (⟨"com/example/austere_access/austereaccess/policy/Glob", "isLiteral", "(Ljava/lang/String;)Z"⟩ : MethodName) prog_39_method_2_code 1 (some .boolean) [] ({ frames := 7, cells := 0, slots := 0, locals := 100 } : Room) #[(.ref b0)] h0 n0 (QI fun r h' => ((r = 1 ∧ ¬ (k0.toInt = 42 ∨ k0.toInt = 63 ∨ k1.toInt = 42 ∨ k1.toInt = 63)) ∨ (r = 0 ∧ (k0.toInt = 42 ∨ k0.toInt = 63 ∨ k1.toInt = 42 ∨ k1.toInt = 63))) ∧ h0 = h') := by
  refine OCon.mk (plainFor_of_name own_pn5) Z0 ?_
  intro p e s m below meth cd s₁ W0
  refine OF.cast (own_ef5_2L m b0) ?_
  have c42 : (42 : Int32).toInt = 42 := rfl
  have c63 : (63 : Int32).toInt = 63 := rfl
  refine o_aloadN W0 own_d5_0 (v := (.ref b0)) rfl rfl (pc' := 1) rfl ?_
  refine o_bipush W0 (v := (42 : Int32)) own_d5_1 rfl (pc' := 3) rfl ?_
  refine o_callV W0 E0 (rm6_2L l Z a0 hw b0 (42 : Int32) h0 n0 W0.le (by decide) cs fm ST hcs hfm k0 k1 hk0 hk1 hall b1 E0 Fv Fc A1) (ow hw 31 rfl) (ow hw 32 rfl) (notFace_of_selects (args := #[]) (mvT W0.hZ (ow hw 34 rfl))) (ow hw 34 rfl) (ow hw 33 rfl) (ow hw 8 rfl) (ow hw 35 rfl) (by decide) (argsL := [(.int (42 : Int32))]) (S := []) (lenOf own_pd7 rfl) rfl rfl rfl (wt := 0) rfl (by decide) (by decide) (by decide) (by decide) (kk' := 0) rfl (nn' := 0) rfl own_d5_3 (pc' := 6) rfl ?_
  intro vv T173 h173 W173 q173 z173
  obtain ⟨r173, rfl, q173⟩ := q173
  show OF _ _ _ _ _ _ _ T173 (mkF m 6 #[.val (.ref b0)] [(.int r173)])
  obtain ⟨q173, rfl⟩ := q173
  refine o_if_ge W173 own_d5_6 (by decide) (pq := 22) (by decide) (pc' := 9) rfl (fun hc6 => ?_) (fun hc6 => ?_)
  · refine o_iconst W173 (v := (0 : Int32)) own_d5_22 rfl (pc' := 23) rfl ?_
    refine o_retN W173 (t := .boolean) rfl (by simp) own_d5_23 (by decide) (by decide) ?_
    exact ⟨(0 : Int32), rfl, Or.inr ⟨rfl, by omega⟩, rfl⟩
  · refine o_aloadN W173 own_d5_9 (v := (.ref b0)) rfl rfl (pc' := 10) rfl ?_
    refine o_bipush W173 (v := (63 : Int32)) own_d5_10 rfl (pc' := 12) rfl ?_
    refine o_callV W173 E0 (rm6_2L l Z a0 hw b0 (63 : Int32) h0 n0 W173.le (by decide) cs fm ST hcs hfm k0 k1 hk0 hk1 hall b1 E0 Fv Fc A1) (ow hw 31 rfl) (ow hw 32 rfl) (notFace_of_selects (args := #[]) (mvT W173.hZ (ow hw 34 rfl))) (ow hw 34 rfl) (ow hw 33 rfl) (ow hw 8 rfl) (ow hw 35 rfl) (by decide) (argsL := [(.int (63 : Int32))]) (S := []) (lenOf own_pd7 rfl) rfl rfl rfl (wt := 0) rfl (by decide) (by decide) (by decide) (by decide) (kk' := 0) rfl (nn' := 0) rfl own_d5_12 (pc' := 15) rfl ?_
    intro vv T174 h174 W174 q174 z174
    obtain ⟨r174, rfl, q174⟩ := q174
    show OF _ _ _ _ _ _ _ T174 (mkF m 15 #[.val (.ref b0)] [(.int r174)])
    obtain ⟨q174, rfl⟩ := q174
    refine o_if_ge W174 own_d5_15 (by decide) (pq := 22) (by decide) (pc' := 18) rfl (fun hc15 => ?_) (fun hc15 => ?_)
    · refine o_iconst W174 (v := (0 : Int32)) own_d5_22 rfl (pc' := 23) rfl ?_
      refine o_retN W174 (t := .boolean) rfl (by simp) own_d5_23 (by decide) (by decide) ?_
      exact ⟨(0 : Int32), rfl, Or.inr ⟨rfl, by omega⟩, rfl⟩
    · refine o_iconst W174 (v := (1 : Int32)) own_d5_18 rfl (pc' := 19) rfl ?_
      refine o_goto W174 own_d5_19 (by decide) (pq := 23) (by decide) ?_
      refine o_retN W174 (t := .boolean) rfl (by simp) own_d5_23 (by decide) (by decide) ?_
      exact ⟨(1 : Int32), rfl, Or.inl ⟨rfl, by omega⟩, rfl⟩
theorem own_ef9_2U (m : MethodId) (z0 : Addr) : entryFrame m #[(.ref z0)] 1 = mkF m 0 #[.val (.ref z0)] [] := by first | (simp [entryFrame, mkF, argsToLocals, Value.category]; done) | rfl
set_option maxRecDepth 65536 in
set_option maxHeartbeats 4000000 in
theorem rm9_2U (l : Launch) (Z : State) (a0 : Array Value) (hw : ∀ d ∈ tables_1, d.before a0 Z = true) (b0 : Addr) (h0 : Heap) (n0 : Nat) (Z0 : n0 ≤ h0.size) (cs : Int32) (fm : Value) (ST : OSt Z h0 cs fm) (hcs : ¬ cs.toInt = 0) (k0 k1 : Int32) (b1 : Addr) (E0 : Exa Z h0 b0 "java/lang/String") (Fv : Fld Z h0 b0 "java/lang/String" "value" "[B" (.ref b1)) (Fc : Fld Z h0 b0 "java/lang/String" "coder" "B" (.int (1 : Int32))) (A1 : OA Z h0 b1 .byte [own_lo k0, own_hi k0, own_lo k1, own_hi k1]) :
    OCon l Z (⟨"java/lang/String", "length", "()I"⟩ : MethodName) jdk_42_method_54_code 1 (some .int) [] ({ frames := 1, cells := 0, slots := 0, locals := 13 } : Room) #[(.ref b0)] h0 n0 (QI fun r h' => r = (2 : Int32) ∧ h0 = h') := by
  refine OCon.mk (plainFor_of_name own_pn4) Z0 ?_
  intro p e s m below meth cd s₁ W0
  refine OF.cast (own_ef9_2U m b0) ?_
  refine o_aloadN W0 own_d9_0 (v := (.ref b0)) rfl rfl (pc' := 1) rfl ?_
  refine o_getF W0 (ow hw 25 rfl) Fv own_d9_1 (pc' := 4) rfl ?_
  intro T175 W175
  refine o_arraylength W175 A1 own_d9_4 (pc' := 5) rfl ?_
  intro v176 hv176
  obtain rfl : v176 = (4 : Int32) := o_eq (y := (4 : Int32)) hv176
  refine o_aloadN W175 own_d9_5 (v := (.ref b0)) rfl rfl (pc' := 6) rfl ?_
  refine o_callV W175 E0 (rm10_U l Z a0 hw b0 h0 n0 W175.le cs fm ST hcs Fc) (ow hw 52 rfl) (ow hw 53 rfl) (notFace_of_selects (args := #[]) (mvT W175.hZ (ow hw 55 rfl))) (ow hw 55 rfl) (ow hw 54 rfl) (ow hw 8 rfl) (ow hw 56 rfl) (by decide) (argsL := []) (S := [(.int (4 : Int32))]) (lenOf own_pd1 rfl) rfl rfl rfl (wt := 1) rfl (by decide) (by decide) (by decide) (by decide) (kk' := 0) rfl (nn' := 0) rfl own_d9_6 (pc' := 9) rfl ?_
  intro vv T177 h177 W177 q177 z177
  obtain ⟨r177, rfl, q177⟩ := q177
  show OF _ _ _ _ _ _ _ T177 (mkF m 9 #[.val (.ref b0)] [(.int r177), (.int (4 : Int32))])
  obtain ⟨q177, rfl⟩ := q177
  obtain rfl : r177 = (1 : Int32) := q177
  refine o_ishr W177 own_d9_9 (pc' := 10) rfl ?_
  show OF _ _ _ _ _ _ _ T177 (mkF m 10 #[.val (.ref b0)] [(.int (2 : Int32))])
  refine o_retI W177 rfl own_d9_10 (by decide) (by decide) ?_
  exact ⟨_, rfl, rfl, rfl⟩
theorem own_ef28_2 (m : MethodId) (z0 : Addr) : entryFrame m #[(.ref z0)] 1 = mkF m 0 #[.val (.ref z0)] [] := by first | (simp [entryFrame, mkF, argsToLocals, Value.category]; done) | rfl
set_option maxRecDepth 65536 in
set_option maxHeartbeats 4000000 in
theorem rm28_2 (l : Launch) (Z : State) (a0 : Array Value) (hw : ∀ d ∈ tables_1, d.before a0 Z = true) (b1 : Addr) (h0 : Heap) (n0 : Nat) (Z0 : n0 ≤ h0.size) (k0 k1 : Int32) (A1 : OA Z h0 b1 .byte [own_lo k0, own_hi k0, own_lo k1, own_hi k1]) :
    OCon l Z (⟨"java/lang/StringUTF16", "length", "([B)I"⟩ : MethodName) jdk_52_method_6_code 1 (some .int) [] ({ frames := 0, cells := 0, slots := 0, locals := 0 } : Room) #[(.ref b1)] h0 n0 (QI fun r h' => r = (2 : Int32) ∧ h0 = h') := by
  refine OCon.mk (plainFor_of_name own_pn2) Z0 ?_
  intro p e s m below meth cd s₁ W0
  refine OF.cast (own_ef28_2 m b1) ?_
  refine o_aloadN W0 own_d28_0 (v := (.ref b1)) rfl rfl (pc' := 1) rfl ?_
  refine o_arraylength W0 A1 own_d28_1 (pc' := 2) rfl ?_
  intro v178 hv178
  obtain rfl : v178 = (4 : Int32) := o_eq (y := (4 : Int32)) hv178
  refine o_iconst W0 (v := (1 : Int32)) own_d28_2 rfl (pc' := 3) rfl ?_
  refine o_ishr W0 own_d28_3 (pc' := 4) rfl ?_
  show OF _ _ _ _ _ _ _ s₁ (mkF m 4 #[.val (.ref b1)] [(.int (2 : Int32))])
  refine o_retI W0 rfl own_d28_4 (by decide) (by decide) ?_
  exact ⟨_, rfl, rfl, rfl⟩
theorem own_ef27_2 (m : MethodId) (z0 : Int32) (z1 : Int32) (z2 : Addr) : entryFrame m #[(.int z0), (.int z1), (.ref z2)] 3 = mkF m 0 #[.val (.int z0), .val (.int z1), .val (.ref z2)] [] := by first | (simp [entryFrame, mkF, argsToLocals, Value.category]; done) | rfl
set_option maxRecDepth 65536 in
set_option maxHeartbeats 4000000 in
theorem rm27_2 (l : Launch) (Z : State) (a0 : Array Value) (hw : ∀ d ∈ tables_1, d.before a0 Z = true) (b1 : Addr) (h0 : Heap) (n0 : Nat) (Z0 : n0 ≤ h0.size) (cs : Int32) (fm : Value) (ST : OSt Z h0 cs fm) (hfm : fm.isRef = true) (k0 k1 : Int32) (A1 : OA Z h0 b1 .byte [own_lo k0, own_hi k0, own_lo k1, own_hi k1]) :
    OCon l Z (⟨"java/lang/StringUTF16", "checkBoundsBeginEnd", "(II[B)V"⟩ : MethodName) jdk_52_method_93_code 3 none [] ({ frames := 2, cells := 0, slots := 0, locals := 29 } : Room) #[(.int (0 : Int32)), (.int (2 : Int32)), (.ref b1)] h0 n0 (QV fun h' => h0 = h') := by
  refine OCon.mk (plainFor_of_name own_pn2) Z0 ?_
  intro p e s m below meth cd s₁ W0
  refine OF.cast (own_ef27_2 m (0 : Int32) (2 : Int32) b1) ?_
  refine o_iloadN W0 own_d27_0 (v := (0 : Int32)) rfl (pc' := 1) rfl ?_
  refine o_iloadN W0 own_d27_1 (v := (2 : Int32)) rfl (pc' := 2) rfl ?_
  refine o_aloadN W0 own_d27_2 (v := (.ref b1)) rfl rfl (pc' := 3) rfl ?_
  refine o_callSI W0 (rm28_2 l Z a0 hw b1 h0 n0 W0.le k0 k1 A1) (ow hw 118 rfl) (ow hw 119 rfl) (ow hw 73 rfl) (ow hw 120 rfl) (by decide) (argsL := [(.ref b1)]) (S := [(.int (2 : Int32)), (.int (0 : Int32))]) (lenOf own_pd15 rfl) rfl rfl rfl (wt := 2) rfl (by decide) (by decide) (by decide) (by decide) (kk' := 0) rfl (nn' := 0) rfl own_d27_3 (pc' := 6) rfl ?_
  intro r179 T179 h179 W179 q179 z179
  obtain ⟨q179, rfl⟩ := q179
  obtain rfl : r179 = (2 : Int32) := q179
  refine o_callS W179 (rm29 l Z a0 hw (0 : Int32) (2 : Int32) (2 : Int32) h0 n0 W179.le cs fm ST hfm (by decide)) (ow hw 121 rfl) (ow hw 122 rfl) (ow hw 8 rfl) (ow hw 123 rfl) (by decide) (argsL := [(.int (0 : Int32)), (.int (2 : Int32)), (.int (2 : Int32))]) (S := []) (lenOf own_pd16 rfl) rfl rfl rfl (wt := 0) rfl (by decide) (by decide) (by decide) (by decide) (kk' := 0) rfl (nn' := 0) rfl own_d27_6 (pc' := 9) rfl ?_
  intro r180 T180 h180 W180 q180 z180
  obtain ⟨rfl, q180⟩ := q180
  show OF _ _ _ _ _ _ _ T180 (mkF m 9 #[.val (.int (0 : Int32)), .val (.int (2 : Int32)), .val (.ref b1)] [])
  obtain rfl := q180
  refine o_retV W180 rfl own_d27_9 (by decide) (by decide) ?_
  exact ⟨rfl, rfl⟩
theorem own_ef31_2 (m : MethodId) (z0 : Addr) (z1 : Int32) (z2 : Int32) (z3 : Int32) : entryFrame m #[(.ref z0), (.int z1), (.int z2), (.int z3)] 5 = mkF m 0 #[.val (.ref z0), .val (.int z1), .val (.int z2), .val (.int z3), .unset] [] := by first | (simp [entryFrame, mkF, argsToLocals, Value.category]; done) | rfl
set_option maxRecDepth 65536 in
set_option maxHeartbeats 4000000 in
theorem rm31_2 (l : Launch) (Z : State) (a0 : Array Value) (hw : ∀ d ∈ tables_1, d.before a0 Z = true) (b1 : Addr) (y1 : Int32) (h0 : Heap) (n0 : Nat) (Z0 : n0 ≤ h0.size) (cs : Int32) (fm : Value) (ST : OSt Z h0 cs fm) (hy : 0 ≤ y1.toInt ∧ y1.toInt < 128) (k0 k1 : Int32) (hk0 : 0 ≤ k0.toInt ∧ k0.toInt ≤ 65535) (hk1 : 0 ≤ k1.toInt ∧ k1.toInt ≤ 65535) (A1 : OA Z h0 b1 .byte [own_lo k0, own_hi k0, own_lo k1, own_hi k1]) :
    OCon l Z (⟨"java/lang/StringUTF16", "indexOfCharUnsafe", "([BIII)I"⟩ : MethodName) jdk_52_method_48_code 5 (some .int) [] ({ frames := 1, cells := 0, slots := 0, locals := 13 } : Room) #[(.ref b1), (.int y1), (.int (0 : Int32)), (.int (2 : Int32))] h0 n0 (QI fun r h' => ((0 ≤ r.toInt ∧ (k0.toInt = y1.toInt ∨ k1.toInt = y1.toInt)) ∨ (r.toInt < 0 ∧ ¬ (k0.toInt = y1.toInt ∨ k1.toInt = y1.toInt))) ∧ h0 = h') := by
  refine OCon.mk (plainFor_of_name own_pn2) Z0 ?_
  intro p e s m below meth cd s₁ W0
  refine OF.cast (own_ef31_2 m b1 y1 (0 : Int32) (2 : Int32)) ?_
  have cm1 : (-1 : Int32).toInt = -1 := rfl
  have ci0 : (0 : Int32).toInt = 0 := rfl
  have ci1 : (1 : Int32).toInt = 1 := rfl
  have ci2 : (2 : Int32).toInt = 2 := rfl
  have ci3 : (3 : Int32).toInt = 3 := rfl
  have ci4 : (4 : Int32).toInt = 4 := rfl
  refine o_iloadN W0 own_d31_0 (v := (0 : Int32)) rfl (pc' := 1) rfl ?_
  refine o_istore W0 (L' := #[.val (.ref b1), .val (.int y1), .val (.int (0 : Int32)), .val (.int (2 : Int32)), .val (.int (0 : Int32))]) own_d31_1 rfl (pc' := 3) rfl ?_
  refine o_iload W0 own_d31_3 (v := (0 : Int32)) rfl (pc' := 5) rfl ?_
  refine o_iloadN W0 own_d31_5 (v := (2 : Int32)) rfl (pc' := 6) rfl ?_
  refine o_icmp_ge W0 own_d31_6 (by decide) (pq := 28) (by decide) (pc' := 9) rfl (fun hc6 => ?_) (fun hc6 => ?_)
  · exact absurd hc6 (by decide)
  · refine o_aloadN W0 own_d31_9 (v := (.ref b1)) rfl rfl (pc' := 10) rfl ?_
    refine o_iload W0 own_d31_10 (v := (0 : Int32)) rfl (pc' := 12) rfl ?_
    refine o_callSI W0 (rm24 l Z a0 hw b1 (0 : Int32) h0 n0 W0.le cs fm ST _ 0 _ _ A1 rfl (by decide) rfl rfl) (ow hw 103 rfl) (ow hw 104 rfl) (ow hw 73 rfl) (ow hw 105 rfl) (by decide) (argsL := [(.ref b1), (.int (0 : Int32))]) (S := []) (lenOf own_pd12 rfl) rfl rfl rfl (wt := 0) rfl (by decide) (by decide) (by decide) (by decide) (kk' := 0) rfl (nn' := 0) rfl own_d31_12 (pc' := 15) rfl ?_
    intro r181 T181 h181 W181 q181 z181
    obtain ⟨q181, rfl⟩ := q181
    obtain rfl : r181 = k0 := q181.trans (own_gcv k0 hk0.1 hk0.2)
    refine o_iloadN W181 own_d31_15 (v := y1) rfl (pc' := 16) rfl ?_
    refine o_icmp_ne W181 own_d31_16 (by decide) (pq := 22) (by decide) (pc' := 19) rfl (fun hc16 => ?_) (fun hc16 => ?_)
    · refine o_iinc W181 (x := (0 : Int32)) (L' := #[.val (.ref b1), .val (.int y1), .val (.int (0 : Int32)), .val (.int (2 : Int32)), .val (.int ((0 : Int32) + (1 : Int32)))]) own_d31_22 rfl rfl (pc' := 25) rfl ?_
      show OF _ _ _ _ _ _ _ T181 (mkF m 25 #[.val (.ref b1), .val (.int y1), .val (.int (0 : Int32)), .val (.int (2 : Int32)), .val (.int (1 : Int32))] [])
      refine o_goto W181 own_d31_25 (by decide) (pq := 3) (by decide) ?_
      refine o_iload W181 own_d31_3 (v := (1 : Int32)) rfl (pc' := 5) rfl ?_
      refine o_iloadN W181 own_d31_5 (v := (2 : Int32)) rfl (pc' := 6) rfl ?_
      refine o_icmp_ge W181 own_d31_6 (by decide) (pq := 28) (by decide) (pc' := 9) rfl (fun hc6 => ?_) (fun hc6 => ?_)
      · exact absurd hc6 (by decide)
      · refine o_aloadN W181 own_d31_9 (v := (.ref b1)) rfl rfl (pc' := 10) rfl ?_
        refine o_iload W181 own_d31_10 (v := (1 : Int32)) rfl (pc' := 12) rfl ?_
        refine o_callSI W181 (rm24 l Z a0 hw b1 (1 : Int32) h0 n0 W181.le cs fm ST _ 1 _ _ A1 rfl (by decide) rfl rfl) (ow hw 103 rfl) (ow hw 104 rfl) (ow hw 73 rfl) (ow hw 105 rfl) (by decide) (argsL := [(.ref b1), (.int (1 : Int32))]) (S := []) (lenOf own_pd12 rfl) rfl rfl rfl (wt := 0) rfl (by decide) (by decide) (by decide) (by decide) (kk' := 0) rfl (nn' := 0) rfl own_d31_12 (pc' := 15) rfl ?_
        intro r182 T182 h182 W182 q182 z182
        obtain ⟨q182, rfl⟩ := q182
        obtain rfl : r182 = k1 := q182.trans (own_gcv k1 hk1.1 hk1.2)
        refine o_iloadN W182 own_d31_15 (v := y1) rfl (pc' := 16) rfl ?_
        refine o_icmp_ne W182 own_d31_16 (by decide) (pq := 22) (by decide) (pc' := 19) rfl (fun hc16 => ?_) (fun hc16 => ?_)
        · refine o_iinc W182 (x := (1 : Int32)) (L' := #[.val (.ref b1), .val (.int y1), .val (.int (0 : Int32)), .val (.int (2 : Int32)), .val (.int ((1 : Int32) + (1 : Int32)))]) own_d31_22 rfl rfl (pc' := 25) rfl ?_
          show OF _ _ _ _ _ _ _ T182 (mkF m 25 #[.val (.ref b1), .val (.int y1), .val (.int (0 : Int32)), .val (.int (2 : Int32)), .val (.int (2 : Int32))] [])
          refine o_goto W182 own_d31_25 (by decide) (pq := 3) (by decide) ?_
          refine o_iload W182 own_d31_3 (v := (2 : Int32)) rfl (pc' := 5) rfl ?_
          refine o_iloadN W182 own_d31_5 (v := (2 : Int32)) rfl (pc' := 6) rfl ?_
          refine o_icmp_ge W182 own_d31_6 (by decide) (pq := 28) (by decide) (pc' := 9) rfl (fun hc6 => ?_) (fun hc6 => ?_)
          · refine o_iconst W182 (v := (-1 : Int32)) own_d31_28 rfl (pc' := 29) rfl ?_
            refine o_retI W182 rfl own_d31_29 (by decide) (by decide) ?_
            exact ⟨_, rfl, by omega, rfl⟩
          · exact absurd hc6 (by decide)
        · refine o_iload W182 own_d31_19 (v := (1 : Int32)) rfl (pc' := 21) rfl ?_
          refine o_retI W182 rfl own_d31_21 (by decide) (by decide) ?_
          exact ⟨_, rfl, by omega, rfl⟩
    · refine o_iload W181 own_d31_19 (v := (0 : Int32)) rfl (pc' := 21) rfl ?_
      refine o_retI W181 rfl own_d31_21 (by decide) (by decide) ?_
      exact ⟨_, rfl, by omega, rfl⟩
theorem own_ef26_2 (m : MethodId) (z0 : Addr) (z1 : Int32) (z2 : Int32) (z3 : Int32) : entryFrame m #[(.ref z0), (.int z1), (.int z2), (.int z3)] 4 = mkF m 0 #[.val (.ref z0), .val (.int z1), .val (.int z2), .val (.int z3)] [] := by first | (simp [entryFrame, mkF, argsToLocals, Value.category]; done) | rfl
set_option maxRecDepth 65536 in
set_option maxHeartbeats 4000000 in
theorem rm26_2 (l : Launch) (Z : State) (a0 : Array Value) (hw : ∀ d ∈ tables_1, d.before a0 Z = true) (b1 : Addr) (y1 : Int32) (h0 : Heap) (n0 : Nat) (Z0 : n0 ≤ h0.size) (cs : Int32) (fm : Value) (ST : OSt Z h0 cs fm) (hfm : fm.isRef = true) (hy : 0 ≤ y1.toInt ∧ y1.toInt < 128) (k0 k1 : Int32) (hk0 : 0 ≤ k0.toInt ∧ k0.toInt ≤ 65535) (hk1 : 0 ≤ k1.toInt ∧ k1.toInt ≤ 65535) (A1 : OA Z h0 b1 .byte [own_lo k0, own_hi k0, own_lo k1, own_hi k1]) :
    OCon l Z (⟨"java/lang/StringUTF16", "indexOfChar", "([BIII)I"⟩ : MethodName) jdk_52_method_47_code 4 (some .int) [] ({ frames := 3, cells := 0, slots := 0, locals := 43 } : Room) #[(.ref b1), (.int y1), (.int (0 : Int32)), (.int (2 : Int32))] h0 n0 (QI fun r h' => ((0 ≤ r.toInt ∧ (k0.toInt = y1.toInt ∨ k1.toInt = y1.toInt)) ∨ (r.toInt < 0 ∧ ¬ (k0.toInt = y1.toInt ∨ k1.toInt = y1.toInt))) ∧ h0 = h') := by
  refine OCon.mk (plainFor_of_name own_pn2) Z0 ?_
  intro p e s m below meth cd s₁ W0
  refine OF.cast (own_ef26_2 m b1 y1 (0 : Int32) (2 : Int32)) ?_
  refine o_iloadN W0 own_d26_0 (v := (0 : Int32)) rfl (pc' := 1) rfl ?_
  refine o_iloadN W0 own_d26_1 (v := (2 : Int32)) rfl (pc' := 2) rfl ?_
  refine o_aloadN W0 own_d26_2 (v := (.ref b1)) rfl rfl (pc' := 3) rfl ?_
  refine o_callS W0 (rm27_2 l Z a0 hw b1 h0 n0 W0.le cs fm ST hfm k0 k1 A1) (ow hw 115 rfl) (ow hw 116 rfl) (ow hw 73 rfl) (ow hw 117 rfl) (by decide) (argsL := [(.int (0 : Int32)), (.int (2 : Int32)), (.ref b1)]) (S := []) (lenOf own_pd17 rfl) rfl rfl rfl (wt := 0) rfl (by decide) (by decide) (by decide) (by decide) (kk' := 0) rfl (nn' := 0) rfl own_d26_3 (pc' := 6) rfl ?_
  intro r183 T183 h183 W183 q183 z183
  obtain ⟨rfl, q183⟩ := q183
  show OF _ _ _ _ _ _ _ T183 (mkF m 6 #[.val (.ref b1), .val (.int y1), .val (.int (0 : Int32)), .val (.int (2 : Int32))] [])
  obtain rfl := q183
  refine o_aloadN W183 own_d26_6 (v := (.ref b1)) rfl rfl (pc' := 7) rfl ?_
  refine o_iloadN W183 own_d26_7 (v := y1) rfl (pc' := 8) rfl ?_
  refine o_iloadN W183 own_d26_8 (v := (0 : Int32)) rfl (pc' := 9) rfl ?_
  refine o_iloadN W183 own_d26_9 (v := (2 : Int32)) rfl (pc' := 10) rfl ?_
  refine o_callSI W183 (rm31_2 l Z a0 hw b1 y1 h0 n0 W183.le cs fm ST hy k0 k1 hk0 hk1 A1) (ow hw 129 rfl) (ow hw 130 rfl) (ow hw 73 rfl) (ow hw 131 rfl) (by decide) (argsL := [(.ref b1), (.int y1), (.int (0 : Int32)), (.int (2 : Int32))]) (S := []) (lenOf own_pd6 rfl) rfl rfl rfl (wt := 0) rfl (by decide) (by decide) (by decide) (by decide) (kk' := 0) rfl (nn' := 0) rfl own_d26_10 (pc' := 13) rfl ?_
  intro r184 T184 h184 W184 q184 z184
  obtain ⟨q184, rfl⟩ := q184
  refine o_retI W184 rfl own_d26_13 (by decide) (by decide) ?_
  exact ⟨_, rfl, q184, rfl⟩
theorem own_ef25_2 (m : MethodId) (z0 : Addr) (z1 : Int32) (z2 : Int32) (z3 : Int32) : entryFrame m #[(.ref z0), (.int z1), (.int z2), (.int z3)] 4 = mkF m 0 #[.val (.ref z0), .val (.int z1), .val (.int z2), .val (.int z3)] [] := by first | (simp [entryFrame, mkF, argsToLocals, Value.category]; done) | rfl
set_option maxRecDepth 65536 in
set_option maxHeartbeats 4000000 in
theorem rm25_2 (l : Launch) (Z : State) (a0 : Array Value) (hw : ∀ d ∈ tables_1, d.before a0 Z = true) (b1 : Addr) (y1 : Int32) (h0 : Heap) (n0 : Nat) (Z0 : n0 ≤ h0.size) (cs : Int32) (fm : Value) (ST : OSt Z h0 cs fm) (hfm : fm.isRef = true) (hy : 0 ≤ y1.toInt ∧ y1.toInt < 128) (k0 k1 : Int32) (hk0 : 0 ≤ k0.toInt ∧ k0.toInt ≤ 65535) (hk1 : 0 ≤ k1.toInt ∧ k1.toInt ≤ 65535) (A1 : OA Z h0 b1 .byte [own_lo k0, own_hi k0, own_lo k1, own_hi k1]) :
    OCon l Z (⟨"java/lang/StringUTF16", "indexOf", "([BIII)I"⟩ : MethodName) jdk_52_method_40_code 4 (some .int) [] ({ frames := 4, cells := 0, slots := 0, locals := 58 } : Room) #[(.ref b1), (.int y1), (.int (0 : Int32)), (.int (2 : Int32))] h0 n0 (QI fun r h' => ((0 ≤ r.toInt ∧ (k0.toInt = y1.toInt ∨ k1.toInt = y1.toInt)) ∨ (r.toInt < 0 ∧ ¬ (k0.toInt = y1.toInt ∨ k1.toInt = y1.toInt))) ∧ h0 = h') := by
  refine OCon.mk (plainFor_of_name own_pn2) Z0 ?_
  intro p e s m below meth cd s₁ W0
  refine OF.cast (own_ef25_2 m b1 y1 (0 : Int32) (2 : Int32)) ?_
  have c_0___Int32_ : (0 : Int32).toInt = 0 := rfl
  have c_2___Int32_ : (2 : Int32).toInt = 2 := rfl
  have c_65536___Int32_ : (65536 : Int32).toInt = 65536 := rfl
  refine o_iloadN W0 own_d25_0 (v := (0 : Int32)) rfl (pc' := 1) rfl ?_
  refine o_iconst W0 (v := (0 : Int32)) own_d25_1 rfl (pc' := 2) rfl ?_
  refine o_callSI W0 (rm13 l Z a0 hw (0 : Int32) (0 : Int32) h0 n0 W0.le) (ow hw 109 rfl) (ow hw 65 rfl) (ow hw 66 rfl) (ow hw 67 rfl) (by decide) (argsL := [(.int (0 : Int32)), (.int (0 : Int32))]) (S := []) (lenOf own_pd3 rfl) rfl rfl rfl (wt := 0) rfl (by decide) (by decide) (by decide) (by decide) (kk' := 0) rfl (nn' := 0) rfl own_d25_2 (pc' := 5) rfl ?_
  intro r185 T185 h185 W185 q185 z185
  obtain ⟨q185, rfl⟩ := q185
  obtain rfl : r185 = (0 : Int32) := by
    rcases q185 with ⟨_, q⟩ | ⟨_, q⟩ <;> exact q
  refine o_istoreN W185 (L' := #[.val (.ref b1), .val (.int y1), .val (.int (0 : Int32)), .val (.int (2 : Int32))]) own_d25_5 rfl (pc' := 6) rfl ?_
  refine o_iloadN W185 own_d25_6 (v := (2 : Int32)) rfl (pc' := 7) rfl ?_
  refine o_aloadN W185 own_d25_7 (v := (.ref b1)) rfl rfl (pc' := 8) rfl ?_
  refine o_arraylength W185 A1 own_d25_8 (pc' := 9) rfl ?_
  intro v186 hv186
  obtain rfl : v186 = (4 : Int32) := o_eq (y := (4 : Int32)) hv186
  refine o_iconst W185 (v := (1 : Int32)) own_d25_9 rfl (pc' := 10) rfl ?_
  refine o_ishr W185 own_d25_10 (pc' := 11) rfl ?_
  show OF _ _ _ _ _ _ _ T185 (mkF m 11 #[.val (.ref b1), .val (.int y1), .val (.int (0 : Int32)), .val (.int (2 : Int32))] [(.int (2 : Int32)), (.int (2 : Int32))])
  refine o_callSI W185 (rm14 l Z a0 hw (2 : Int32) (2 : Int32) h0 n0 W185.le) (ow hw 110 rfl) (ow hw 69 rfl) (ow hw 66 rfl) (ow hw 70 rfl) (by decide) (argsL := [(.int (2 : Int32)), (.int (2 : Int32))]) (S := []) (lenOf own_pd3 rfl) rfl rfl rfl (wt := 0) rfl (by decide) (by decide) (by decide) (by decide) (kk' := 0) rfl (nn' := 0) rfl own_d25_11 (pc' := 14) rfl ?_
  intro r187 T187 h187 W187 q187 z187
  obtain ⟨q187, rfl⟩ := q187
  obtain rfl : r187 = (2 : Int32) := by
    rcases q187 with ⟨_, q⟩ | ⟨_, q⟩ <;> exact q
  refine o_istoreN W187 (L' := #[.val (.ref b1), .val (.int y1), .val (.int (0 : Int32)), .val (.int (2 : Int32))]) own_d25_14 rfl (pc' := 15) rfl ?_
  refine o_iloadN W187 own_d25_15 (v := (0 : Int32)) rfl (pc' := 16) rfl ?_
  refine o_iloadN W187 own_d25_16 (v := (2 : Int32)) rfl (pc' := 17) rfl ?_
  refine o_icmp_lt W187 own_d25_17 (by decide) (pq := 22) (by decide) (pc' := 20) rfl (fun hc17 => ?_) (fun hc17 => ?_)
  · refine o_iloadN W187 own_d25_22 (v := y1) rfl (pc' := 23) rfl ?_
    refine o_ldc W187 (ow hw 111 rfl) own_d25_23 (pc' := 25) rfl ?_
    refine o_icmp_ge W187 own_d25_25 (by decide) (pq := 36) (by decide) (pc' := 28) rfl (fun hc25 => ?_) (fun hc25 => ?_)
    · exfalso; omega
    · refine o_aloadN W187 own_d25_28 (v := (.ref b1)) rfl rfl (pc' := 29) rfl ?_
      refine o_iloadN W187 own_d25_29 (v := y1) rfl (pc' := 30) rfl ?_
      refine o_iloadN W187 own_d25_30 (v := (0 : Int32)) rfl (pc' := 31) rfl ?_
      refine o_iloadN W187 own_d25_31 (v := (2 : Int32)) rfl (pc' := 32) rfl ?_
      refine o_callSI W187 (rm26_2 l Z a0 hw b1 y1 h0 n0 W187.le cs fm ST hfm hy k0 k1 hk0 hk1 A1) (ow hw 112 rfl) (ow hw 113 rfl) (ow hw 73 rfl) (ow hw 114 rfl) (by decide) (argsL := [(.ref b1), (.int y1), (.int (0 : Int32)), (.int (2 : Int32))]) (S := []) (lenOf own_pd6 rfl) rfl rfl rfl (wt := 0) rfl (by decide) (by decide) (by decide) (by decide) (kk' := 0) rfl (nn' := 0) rfl own_d25_32 (pc' := 35) rfl ?_
      intro r188 T188 h188 W188 q188 z188
      obtain ⟨q188, rfl⟩ := q188
      refine o_retI W188 rfl own_d25_35 (by decide) (by decide) ?_
      exact ⟨_, rfl, q188, rfl⟩
  · exact absurd hc17 (by decide)
theorem own_ef7_2U (m : MethodId) (z0 : Addr) (z1 : Int32) (z2 : Int32) : entryFrame m #[(.ref z0), (.int z1), (.int z2)] 3 = mkF m 0 #[.val (.ref z0), .val (.int z1), .val (.int z2)] [] := by first | (simp [entryFrame, mkF, argsToLocals, Value.category]; done) | rfl
set_option maxRecDepth 65536 in
set_option maxHeartbeats 4000000 in
theorem rm7_2U (l : Launch) (Z : State) (a0 : Array Value) (hw : ∀ d ∈ tables_1, d.before a0 Z = true) (b0 : Addr) (y1 : Int32) (h0 : Heap) (n0 : Nat) (Z0 : n0 ≤ h0.size) (hy : 0 ≤ y1.toInt ∧ y1.toInt < 128) (cs : Int32) (fm : Value) (ST : OSt Z h0 cs fm) (hcs : ¬ cs.toInt = 0) (hfm : fm.isRef = true) (k0 k1 : Int32) (hk0 : 0 ≤ k0.toInt ∧ k0.toInt ≤ 65535) (hk1 : 0 ≤ k1.toInt ∧ k1.toInt ≤ 65535) (b1 : Addr) (E0 : Exa Z h0 b0 "java/lang/String") (Fv : Fld Z h0 b0 "java/lang/String" "value" "[B" (.ref b1)) (Fc : Fld Z h0 b0 "java/lang/String" "coder" "B" (.int (1 : Int32))) (A1 : OA Z h0 b1 .byte [own_lo k0, own_hi k0, own_lo k1, own_hi k1]) :
    OCon l Z (⟨"java/lang/String", "indexOf", "(II)I"⟩ : MethodName) jdk_42_method_80_code 3 (some .int) [] ({ frames := 5, cells := 0, slots := 0, locals := 73 } : Room) #[(.ref b0), (.int y1), (.int (0 : Int32))] h0 n0 (QI fun r h' => ((0 ≤ r.toInt ∧ (k0.toInt = y1.toInt ∨ k1.toInt = y1.toInt)) ∨ (r.toInt < 0 ∧ ¬ (k0.toInt = y1.toInt ∨ k1.toInt = y1.toInt))) ∧ h0 = h') := by
  refine OCon.mk (plainFor_of_name own_pn4) Z0 ?_
  intro p e s m below meth cd s₁ W0
  refine OF.cast (own_ef7_2U m b0 y1 (0 : Int32)) ?_
  have c_0___Int32_ : (0 : Int32).toInt = 0 := rfl
  refine o_aloadN W0 own_d7_0 (v := (.ref b0)) rfl rfl (pc' := 1) rfl ?_
  refine o_callV W0 E0 (rm8_U l Z a0 hw b0 h0 n0 W0.le cs fm ST hcs Fc) (ow hw 41 rfl) (ow hw 42 rfl) (notFace_of_selects (args := #[]) (mvT W0.hZ (ow hw 44 rfl))) (ow hw 44 rfl) (ow hw 43 rfl) (ow hw 8 rfl) (ow hw 45 rfl) (by decide) (argsL := []) (S := []) (lenOf own_pd4 rfl) rfl rfl rfl (wt := 0) rfl (by decide) (by decide) (by decide) (by decide) (kk' := 0) rfl (nn' := 0) rfl own_d7_1 (pc' := 4) rfl ?_
  intro vv T189 h189 W189 q189 z189
  obtain ⟨r189, rfl, q189⟩ := q189
  show OF _ _ _ _ _ _ _ T189 (mkF m 4 #[.val (.ref b0), .val (.int y1), .val (.int (0 : Int32))] [(.int r189)])
  obtain ⟨q189, rfl⟩ := q189
  obtain rfl : r189 = (0 : Int32) := q189
  refine o_if_eq W189 own_d7_4 (by decide) (pq := 23) (by decide) (pc' := 7) rfl (fun hc4 => ?_) (fun hc4 => ?_)
  · refine o_aloadN W189 own_d7_23 (v := (.ref b0)) rfl rfl (pc' := 24) rfl ?_
    refine o_getF W189 (ow hw 25 rfl) Fv own_d7_24 (pc' := 27) rfl ?_
    intro T190 W190
    refine o_iloadN W190 own_d7_27 (v := y1) rfl (pc' := 28) rfl ?_
    refine o_iloadN W190 own_d7_28 (v := (0 : Int32)) rfl (pc' := 29) rfl ?_
    refine o_aloadN W190 own_d7_29 (v := (.ref b0)) rfl rfl (pc' := 30) rfl ?_
    refine o_callV W190 E0 (rm9_2U l Z a0 hw b0 h0 n0 W190.le cs fm ST hcs k0 k1 b1 E0 Fv Fc A1) (ow hw 47 rfl) (ow hw 48 rfl) (notFace_of_selects (args := #[]) (mvT W190.hZ (ow hw 50 rfl))) (ow hw 50 rfl) (ow hw 49 rfl) (ow hw 8 rfl) (ow hw 51 rfl) (by decide) (argsL := []) (S := [(.int (0 : Int32)), (.int y1), (.ref b1)]) (lenOf own_pd5 rfl) rfl rfl rfl (wt := 3) rfl (by decide) (by decide) (by decide) (by decide) (kk' := 0) rfl (nn' := 0) rfl own_d7_30 (pc' := 33) rfl ?_
    intro vv T191 h191 W191 q191 z191
    obtain ⟨r191, rfl, q191⟩ := q191
    show OF _ _ _ _ _ _ _ T191 (mkF m 33 #[.val (.ref b0), .val (.int y1), .val (.int (0 : Int32))] [(.int r191), (.int (0 : Int32)), (.int y1), (.ref b1)])
    obtain ⟨q191, rfl⟩ := q191
    obtain rfl : r191 = (2 : Int32) := q191
    refine o_callSI W191 (rm25_2 l Z a0 hw b1 y1 h0 n0 W191.le cs fm ST hfm hy k0 k1 hk0 hk1 A1) (ow hw 106 rfl) (ow hw 107 rfl) (ow hw 73 rfl) (ow hw 108 rfl) (by decide) (argsL := [(.ref b1), (.int y1), (.int (0 : Int32)), (.int (2 : Int32))]) (S := []) (lenOf own_pd6 rfl) rfl rfl rfl (wt := 0) rfl (by decide) (by decide) (by decide) (by decide) (kk' := 0) rfl (nn' := 0) rfl own_d7_33 (pc' := 36) rfl ?_
    intro r192 T192 h192 W192 q192 z192
    obtain ⟨q192, rfl⟩ := q192
    refine o_retI W192 rfl own_d7_36 (by decide) (by decide) ?_
    exact ⟨_, rfl, q192, rfl⟩
  · exact absurd hc4 (by decide)
theorem own_ef6_2U (m : MethodId) (z0 : Addr) (z1 : Int32) : entryFrame m #[(.ref z0), (.int z1)] 2 = mkF m 0 #[.val (.ref z0), .val (.int z1)] [] := by first | (simp [entryFrame, mkF, argsToLocals, Value.category]; done) | rfl
set_option maxRecDepth 65536 in
set_option maxHeartbeats 4000000 in
theorem rm6_2U (l : Launch) (Z : State) (a0 : Array Value) (hw : ∀ d ∈ tables_1, d.before a0 Z = true) (b0 : Addr) (y1 : Int32) (h0 : Heap) (n0 : Nat) (Z0 : n0 ≤ h0.size) (hy : 0 ≤ y1.toInt ∧ y1.toInt < 128) (cs : Int32) (fm : Value) (ST : OSt Z h0 cs fm) (hcs : ¬ cs.toInt = 0) (hfm : fm.isRef = true) (k0 k1 : Int32) (hk0 : 0 ≤ k0.toInt ∧ k0.toInt ≤ 65535) (hk1 : 0 ≤ k1.toInt ∧ k1.toInt ≤ 65535) (b1 : Addr) (E0 : Exa Z h0 b0 "java/lang/String") (Fv : Fld Z h0 b0 "java/lang/String" "value" "[B" (.ref b1)) (Fc : Fld Z h0 b0 "java/lang/String" "coder" "B" (.int (1 : Int32))) (A1 : OA Z h0 b1 .byte [own_lo k0, own_hi k0, own_lo k1, own_hi k1]) :
    OCon l Z (⟨"java/lang/String", "indexOf", "(I)I"⟩ : MethodName) jdk_42_method_79_code 2 (some .int) [] ({ frames := 6, cells := 0, slots := 0, locals := 87 } : Room) #[(.ref b0), (.int y1)] h0 n0 (QI fun r h' => ((0 ≤ r.toInt ∧ (k0.toInt = y1.toInt ∨ k1.toInt = y1.toInt)) ∨ (r.toInt < 0 ∧ ¬ (k0.toInt = y1.toInt ∨ k1.toInt = y1.toInt))) ∧ h0 = h') := by
  refine OCon.mk (plainFor_of_name own_pn4) Z0 ?_
  intro p e s m below meth cd s₁ W0
  refine OF.cast (own_ef6_2U m b0 y1) ?_
  refine o_aloadN W0 own_d6_0 (v := (.ref b0)) rfl rfl (pc' := 1) rfl ?_
  refine o_iloadN W0 own_d6_1 (v := y1) rfl (pc' := 2) rfl ?_
  refine o_iconst W0 (v := (0 : Int32)) own_d6_2 rfl (pc' := 3) rfl ?_
  refine o_callV W0 E0 (rm7_2U l Z a0 hw b0 y1 h0 n0 W0.le hy cs fm ST hcs hfm k0 k1 hk0 hk1 b1 E0 Fv Fc A1) (ow hw 36 rfl) (ow hw 37 rfl) (notFace_of_selects (args := #[]) (mvT W0.hZ (ow hw 39 rfl))) (ow hw 39 rfl) (ow hw 38 rfl) (ow hw 8 rfl) (ow hw 40 rfl) (by decide) (argsL := [(.int y1), (.int (0 : Int32))]) (S := []) (lenOf own_pd3 rfl) rfl rfl rfl (wt := 0) rfl (by decide) (by decide) (by decide) (by decide) (kk' := 0) rfl (nn' := 0) rfl own_d6_3 (pc' := 6) rfl ?_
  intro vv T193 h193 W193 q193 z193
  obtain ⟨r193, rfl, q193⟩ := q193
  show OF _ _ _ _ _ _ _ T193 (mkF m 6 #[.val (.ref b0), .val (.int y1)] [(.int r193)])
  obtain ⟨q193, rfl⟩ := q193
  refine o_retI W193 rfl own_d6_6 (by decide) (by decide) ?_
  exact ⟨_, rfl, q193, rfl⟩
theorem own_ef5_2U (m : MethodId) (z0 : Addr) : entryFrame m #[(.ref z0)] 1 = mkF m 0 #[.val (.ref z0)] [] := by first | (simp [entryFrame, mkF, argsToLocals, Value.category]; done) | rfl
set_option maxRecDepth 65536 in
set_option maxHeartbeats 4000000 in
theorem rm5_2U (l : Launch) (Z : State) (a0 : Array Value) (hw : ∀ d ∈ tables_1, d.before a0 Z = true) (b0 : Addr) (h0 : Heap) (n0 : Nat) (Z0 : n0 ≤ h0.size) (cs : Int32) (fm : Value) (ST : OSt Z h0 cs fm) (hcs : ¬ cs.toInt = 0) (hfm : fm.isRef = true) (k0 k1 : Int32) (hk0 : 0 ≤ k0.toInt ∧ k0.toInt ≤ 65535) (hk1 : 0 ≤ k1.toInt ∧ k1.toInt ≤ 65535) (b1 : Addr) (E0 : Exa Z h0 b0 "java/lang/String") (Fv : Fld Z h0 b0 "java/lang/String" "value" "[B" (.ref b1)) (Fc : Fld Z h0 b0 "java/lang/String" "coder" "B" (.int (1 : Int32))) (A1 : OA Z h0 b1 .byte [own_lo k0, own_hi k0, own_lo k1, own_hi k1]) :
    OCon l Z (⟨"com/example/austere_access/austereaccess/policy/Glob", "isLiteral", "(Ljava/lang/String;)Z"⟩ : MethodName) prog_39_method_2_code 1 (some .boolean) [] ({ frames := 7, cells := 0, slots := 0, locals := 100 } : Room) #[(.ref b0)] h0 n0 (QI fun r h' => ((r = 1 ∧ ¬ (k0.toInt = 42 ∨ k0.toInt = 63 ∨ k1.toInt = 42 ∨ k1.toInt = 63)) ∨ (r = 0 ∧ (k0.toInt = 42 ∨ k0.toInt = 63 ∨ k1.toInt = 42 ∨ k1.toInt = 63))) ∧ h0 = h') := by
  refine OCon.mk (plainFor_of_name own_pn5) Z0 ?_
  intro p e s m below meth cd s₁ W0
  refine OF.cast (own_ef5_2U m b0) ?_
  have c42 : (42 : Int32).toInt = 42 := rfl
  have c63 : (63 : Int32).toInt = 63 := rfl
  refine o_aloadN W0 own_d5_0 (v := (.ref b0)) rfl rfl (pc' := 1) rfl ?_
  refine o_bipush W0 (v := (42 : Int32)) own_d5_1 rfl (pc' := 3) rfl ?_
  refine o_callV W0 E0 (rm6_2U l Z a0 hw b0 (42 : Int32) h0 n0 W0.le (by decide) cs fm ST hcs hfm k0 k1 hk0 hk1 b1 E0 Fv Fc A1) (ow hw 31 rfl) (ow hw 32 rfl) (notFace_of_selects (args := #[]) (mvT W0.hZ (ow hw 34 rfl))) (ow hw 34 rfl) (ow hw 33 rfl) (ow hw 8 rfl) (ow hw 35 rfl) (by decide) (argsL := [(.int (42 : Int32))]) (S := []) (lenOf own_pd7 rfl) rfl rfl rfl (wt := 0) rfl (by decide) (by decide) (by decide) (by decide) (kk' := 0) rfl (nn' := 0) rfl own_d5_3 (pc' := 6) rfl ?_
  intro vv T194 h194 W194 q194 z194
  obtain ⟨r194, rfl, q194⟩ := q194
  show OF _ _ _ _ _ _ _ T194 (mkF m 6 #[.val (.ref b0)] [(.int r194)])
  obtain ⟨q194, rfl⟩ := q194
  refine o_if_ge W194 own_d5_6 (by decide) (pq := 22) (by decide) (pc' := 9) rfl (fun hc6 => ?_) (fun hc6 => ?_)
  · refine o_iconst W194 (v := (0 : Int32)) own_d5_22 rfl (pc' := 23) rfl ?_
    refine o_retN W194 (t := .boolean) rfl (by simp) own_d5_23 (by decide) (by decide) ?_
    exact ⟨(0 : Int32), rfl, Or.inr ⟨rfl, by omega⟩, rfl⟩
  · refine o_aloadN W194 own_d5_9 (v := (.ref b0)) rfl rfl (pc' := 10) rfl ?_
    refine o_bipush W194 (v := (63 : Int32)) own_d5_10 rfl (pc' := 12) rfl ?_
    refine o_callV W194 E0 (rm6_2U l Z a0 hw b0 (63 : Int32) h0 n0 W194.le (by decide) cs fm ST hcs hfm k0 k1 hk0 hk1 b1 E0 Fv Fc A1) (ow hw 31 rfl) (ow hw 32 rfl) (notFace_of_selects (args := #[]) (mvT W194.hZ (ow hw 34 rfl))) (ow hw 34 rfl) (ow hw 33 rfl) (ow hw 8 rfl) (ow hw 35 rfl) (by decide) (argsL := [(.int (63 : Int32))]) (S := []) (lenOf own_pd7 rfl) rfl rfl rfl (wt := 0) rfl (by decide) (by decide) (by decide) (by decide) (kk' := 0) rfl (nn' := 0) rfl own_d5_12 (pc' := 15) rfl ?_
    intro vv T195 h195 W195 q195 z195
    obtain ⟨r195, rfl, q195⟩ := q195
    show OF _ _ _ _ _ _ _ T195 (mkF m 15 #[.val (.ref b0)] [(.int r195)])
    obtain ⟨q195, rfl⟩ := q195
    refine o_if_ge W195 own_d5_15 (by decide) (pq := 22) (by decide) (pc' := 18) rfl (fun hc15 => ?_) (fun hc15 => ?_)
    · refine o_iconst W195 (v := (0 : Int32)) own_d5_22 rfl (pc' := 23) rfl ?_
      refine o_retN W195 (t := .boolean) rfl (by simp) own_d5_23 (by decide) (by decide) ?_
      exact ⟨(0 : Int32), rfl, Or.inr ⟨rfl, by omega⟩, rfl⟩
    · refine o_iconst W195 (v := (1 : Int32)) own_d5_18 rfl (pc' := 19) rfl ?_
      refine o_goto W195 own_d5_19 (by decide) (pq := 23) (by decide) ?_
      refine o_retN W195 (t := .boolean) rfl (by simp) own_d5_23 (by decide) (by decide) ?_
      exact ⟨(1 : Int32), rfl, Or.inl ⟨rfl, by omega⟩, rfl⟩
theorem own_ef0_2 (m : MethodId) (z0 : Int32) (z1 : Int32) (z2 : Int32) (z3 : Int32) (z4 : Int32) : entryFrame m #[(.int z0), (.int z1), (.int z2), (.int z3), (.int z4)] maxLocals = mkF m 0 #[.val (.int z0), .val (.int z1), .val (.int z2), .val (.int z3), .val (.int z4), .unset, .unset, .unset, .unset, .unset, .unset, .unset, .unset, .unset, .unset, .unset, .unset, .unset] [] := by first | (simp [entryFrame, mkF, argsToLocals, Value.category, maxLocals]; done) | rfl
set_option maxRecDepth 65536 in
set_option maxHeartbeats 4000000 in
theorem own_law_2 (l : Launch) (Z : State) (a0 : Array Value) (hw : ∀ d ∈ tables_1, d.before a0 Z = true) (x0 : Int32) (x1 : Int32) (x2 : Int32) (x3 : Int32) (x4 : Int32) (h0 : Heap) (n0 : Nat) (Z0 : n0 ≤ h0.size) (cs : Int32) (fm : Value) (ST : OSt Z h0 cs fm) (hcs : ¬ cs.toInt = 0) (hfm : fm.isRef = true) (hx0 : (x0 &&& 7) - (x0 &&& 7) / 5 * 5 = (2 : Int32)) :
    OCon l Z x code maxLocals ret tables_1 room_1 #[(.int x0), (.int x1), (.int x2), (.int x3), (.int x4)] h0 n0 (fun v _ => v = some (.int 1)) := by
  refine OCon.mk (plainFor_of_name own_pn0) Z0 ?_
  intro p e s m below meth cd s₁ W0
  refine OF.cast (own_ef0_2 m x0 x1 x2 x3 x4) ?_
  refine o_iloadN W0 at_0 (v := x0) rfl (pc' := 1) rfl ?_
  refine o_bipush W0 (v := (7 : Int32)) at_1 rfl (pc' := 3) rfl ?_
  refine o_iand W0 at_3 (pc' := 4) rfl ?_
  refine o_iconst W0 (v := (5 : Int32)) at_4 rfl (pc' := 5) rfl ?_
  refine o_irem W0 at_5 (by decide) (pc' := 6) rfl ?_
  rw [hx0]
  refine o_istore W0 (L' := #[.val (.int x0), .val (.int x1), .val (.int x2), .val (.int x3), .val (.int x4), .val (.int (2 : Int32)), .unset, .unset, .unset, .unset, .unset, .unset, .unset, .unset, .unset, .unset, .unset, .unset]) at_6 rfl (pc' := 8) rfl ?_
  refine o_iloadN W0 at_8 (v := x1) rfl (pc' := 9) rfl ?_
  refine o_callSI W0 (rm1 l Z a0 hw x1 h0 n0 W0.le) (ow hw 0 rfl) (ow hw 1 rfl) (ow hw 2 rfl) (ow hw 3 rfl) (by decide) (argsL := [(.int x1)]) (S := []) (lenOf own_pd18 rfl) rfl rfl rfl (wt := 0) rfl (by decide) (by decide) (by decide) (by decide) (kk' := 0) rfl (nn' := 0) rfl at_9 (pc' := 12) rfl ?_
  intro r196 T196 h196 W196 q196 z196
  obtain ⟨q196, rfl⟩ := q196
  refine o_istore W196 (L' := #[.val (.int x0), .val (.int x1), .val (.int x2), .val (.int x3), .val (.int x4), .val (.int (2 : Int32)), .val (.int r196), .unset, .unset, .unset, .unset, .unset, .unset, .unset, .unset, .unset, .unset, .unset]) at_12 rfl (pc' := 14) rfl ?_
  refine o_iloadN W196 at_14 (v := x2) rfl (pc' := 15) rfl ?_
  refine o_callSI W196 (rm1 l Z a0 hw x2 h0 n0 W196.le) (ow hw 0 rfl) (ow hw 1 rfl) (ow hw 2 rfl) (ow hw 3 rfl) (by decide) (argsL := [(.int x2)]) (S := []) (lenOf own_pd18 rfl) rfl rfl rfl (wt := 0) rfl (by decide) (by decide) (by decide) (by decide) (kk' := 0) rfl (nn' := 0) rfl at_15 (pc' := 18) rfl ?_
  intro r197 T197 h197 W197 q197 z197
  obtain ⟨q197, rfl⟩ := q197
  refine o_istore W197 (L' := #[.val (.int x0), .val (.int x1), .val (.int x2), .val (.int x3), .val (.int x4), .val (.int (2 : Int32)), .val (.int r196), .val (.int r197), .unset, .unset, .unset, .unset, .unset, .unset, .unset, .unset, .unset, .unset]) at_18 rfl (pc' := 20) rfl ?_
  refine o_iloadN W197 at_20 (v := x3) rfl (pc' := 21) rfl ?_
  refine o_callSI W197 (rm1 l Z a0 hw x3 h0 n0 W197.le) (ow hw 0 rfl) (ow hw 1 rfl) (ow hw 2 rfl) (ow hw 3 rfl) (by decide) (argsL := [(.int x3)]) (S := []) (lenOf own_pd18 rfl) rfl rfl rfl (wt := 0) rfl (by decide) (by decide) (by decide) (by decide) (kk' := 0) rfl (nn' := 0) rfl at_21 (pc' := 24) rfl ?_
  intro r198 T198 h198 W198 q198 z198
  obtain ⟨q198, rfl⟩ := q198
  refine o_istore W198 (L' := #[.val (.int x0), .val (.int x1), .val (.int x2), .val (.int x3), .val (.int x4), .val (.int (2 : Int32)), .val (.int r196), .val (.int r197), .val (.int r198), .unset, .unset, .unset, .unset, .unset, .unset, .unset, .unset, .unset]) at_24 rfl (pc' := 26) rfl ?_
  refine o_iload W198 at_26 (v := x4) rfl (pc' := 28) rfl ?_
  refine o_callSI W198 (rm1 l Z a0 hw x4 h0 n0 W198.le) (ow hw 0 rfl) (ow hw 1 rfl) (ow hw 2 rfl) (ow hw 3 rfl) (by decide) (argsL := [(.int x4)]) (S := []) (lenOf own_pd18 rfl) rfl rfl rfl (wt := 0) rfl (by decide) (by decide) (by decide) (by decide) (kk' := 0) rfl (nn' := 0) rfl at_28 (pc' := 31) rfl ?_
  intro r199 T199 h199 W199 q199 z199
  obtain ⟨q199, rfl⟩ := q199
  refine o_istore W199 (L' := #[.val (.int x0), .val (.int x1), .val (.int x2), .val (.int x3), .val (.int x4), .val (.int (2 : Int32)), .val (.int r196), .val (.int r197), .val (.int r198), .val (.int r199), .unset, .unset, .unset, .unset, .unset, .unset, .unset, .unset]) at_31 rfl (pc' := 33) rfl ?_
  refine o_iconst W199 (v := (0 : Int32)) at_33 rfl (pc' := 34) rfl ?_
  refine o_newarray W199 (ty := .char) (len := 0) (cap := 0) (ow hw 5 rfl) rfl rfl rfl at_34 (pc' := 36) rfl rfl (by decide) (by decide) (by decide) (by decide) (kk' := 1) rfl (nn' := 0) rfl ?_
  intro T201 h201 a200 W201 E201 g_a200 A_a200
  have b_a200 : n0 ≤ a200 := by rw [g_a200]; exact W199.le
  have A_a200 : OA Z h201 a200 .char [] := A_a200
  have ST_201 := ST.ext E201
  refine o_astore W201 (L' := #[.val (.int x0), .val (.int x1), .val (.int x2), .val (.int x3), .val (.int x4), .val (.int (2 : Int32)), .val (.int r196), .val (.int r197), .val (.int r198), .val (.int r199), .val (.ref a200), .unset, .unset, .unset, .unset, .unset, .unset, .unset]) at_36 rfl rfl (pc' := 38) rfl ?_
  refine o_iconst W201 (v := (1 : Int32)) at_38 rfl (pc' := 39) rfl ?_
  refine o_newarray W201 (ty := .char) (len := 1) (cap := 1) (ow hw 5 rfl) rfl rfl rfl at_39 (pc' := 41) rfl rfl (by decide) (by decide) (by decide) (by decide) (kk' := 2) rfl (nn' := 1) rfl ?_
  intro T203 h203 a202 W203 E203 g_a202 A_a202
  have b_a202 : n0 ≤ a202 := by rw [g_a202]; exact W201.le
  have ne_a200_a202 : a200 ≠ a202 := Nat.ne_of_lt (Nat.lt_of_lt_of_le A_a200.lt (Nat.le_of_eq g_a202.symm))
  have A_a200_203 := A_a200.ext E203
  have A_a202 : OA Z h203 a202 .char [0] := A_a202
  have ST_203 := ST_201.ext E203
  refine o_dup W203 at_41 rfl (pc' := 42) rfl ?_
  refine o_iconst W203 (v := (0 : Int32)) at_42 rfl (pc' := 43) rfl ?_
  refine o_iload W203 at_43 (v := r196) rfl (pc' := 45) rfl ?_
  refine o_castore W203 A_a202 b_a202 at_45 (pc' := 46) rfl (i := 0) rfl (Nat.le_of_ble_eq_true rfl) ?_
  intro T204 h204 W204 K204 A_a202_204
  have A_a200_204 := A_a200_203.keep1 K204 ne_a200_a202
  have ST_204 := ST_203.keepA A_a202 K204
  have A_a202_204 : OA Z h204 a202 .char [(r196.toUInt32.toUInt16.toUInt32.toInt32)] := A_a202_204
  refine o_astore W204 (L' := #[.val (.int x0), .val (.int x1), .val (.int x2), .val (.int x3), .val (.int x4), .val (.int (2 : Int32)), .val (.int r196), .val (.int r197), .val (.int r198), .val (.int r199), .val (.ref a200), .val (.ref a202), .unset, .unset, .unset, .unset, .unset, .unset]) at_46 rfl rfl (pc' := 48) rfl ?_
  refine o_iconst W204 (v := (2 : Int32)) at_48 rfl (pc' := 49) rfl ?_
  refine o_newarray W204 (ty := .char) (len := 2) (cap := 2) (ow hw 5 rfl) rfl rfl rfl at_49 (pc' := 51) rfl rfl (by decide) (by decide) (by decide) (by decide) (kk' := 3) rfl (nn' := 3) rfl ?_
  intro T206 h206 a205 W206 E206 g_a205 A_a205
  have b_a205 : n0 ≤ a205 := by rw [g_a205]; exact W204.le
  have ne_a200_a205 : a200 ≠ a205 := Nat.ne_of_lt (Nat.lt_of_lt_of_le A_a200_204.lt (Nat.le_of_eq g_a205.symm))
  have A_a200_206 := A_a200_204.ext E206
  have ne_a202_a205 : a202 ≠ a205 := Nat.ne_of_lt (Nat.lt_of_lt_of_le A_a202_204.lt (Nat.le_of_eq g_a205.symm))
  have A_a202_206 := A_a202_204.ext E206
  have A_a205 : OA Z h206 a205 .char [0, 0] := A_a205
  have ST_206 := ST_204.ext E206
  refine o_dup W206 at_51 rfl (pc' := 52) rfl ?_
  refine o_iconst W206 (v := (0 : Int32)) at_52 rfl (pc' := 53) rfl ?_
  refine o_iload W206 at_53 (v := r196) rfl (pc' := 55) rfl ?_
  refine o_castore W206 A_a205 b_a205 at_55 (pc' := 56) rfl (i := 0) rfl (Nat.le_of_ble_eq_true rfl) ?_
  intro T207 h207 W207 K207 A_a205_207
  have A_a200_207 := A_a200_206.keep1 K207 ne_a200_a205
  have A_a202_207 := A_a202_206.keep1 K207 ne_a202_a205
  have ST_207 := ST_206.keepA A_a205 K207
  have A_a205_207 : OA Z h207 a205 .char [(r196.toUInt32.toUInt16.toUInt32.toInt32), 0] := A_a205_207
  refine o_dup W207 at_56 rfl (pc' := 57) rfl ?_
  refine o_iconst W207 (v := (1 : Int32)) at_57 rfl (pc' := 58) rfl ?_
  refine o_iload W207 at_58 (v := r197) rfl (pc' := 60) rfl ?_
  refine o_castore W207 A_a205_207 b_a205 at_60 (pc' := 61) rfl (i := 1) rfl (Nat.le_of_ble_eq_true rfl) ?_
  intro T208 h208 W208 K208 A_a205_208
  have A_a200_208 := A_a200_207.keep1 K208 ne_a200_a205
  have A_a202_208 := A_a202_207.keep1 K208 ne_a202_a205
  have ST_208 := ST_207.keepA A_a205_207 K208
  have A_a205_208 : OA Z h208 a205 .char [(r196.toUInt32.toUInt16.toUInt32.toInt32), (r197.toUInt32.toUInt16.toUInt32.toInt32)] := A_a205_208
  refine o_astore W208 (L' := #[.val (.int x0), .val (.int x1), .val (.int x2), .val (.int x3), .val (.int x4), .val (.int (2 : Int32)), .val (.int r196), .val (.int r197), .val (.int r198), .val (.int r199), .val (.ref a200), .val (.ref a202), .val (.ref a205), .unset, .unset, .unset, .unset, .unset]) at_61 rfl rfl (pc' := 63) rfl ?_
  refine o_iconst W208 (v := (3 : Int32)) at_63 rfl (pc' := 64) rfl ?_
  refine o_newarray W208 (ty := .char) (len := 3) (cap := 3) (ow hw 5 rfl) rfl rfl rfl at_64 (pc' := 66) rfl rfl (by decide) (by decide) (by decide) (by decide) (kk' := 4) rfl (nn' := 6) rfl ?_
  intro T210 h210 a209 W210 E210 g_a209 A_a209
  have b_a209 : n0 ≤ a209 := by rw [g_a209]; exact W208.le
  have ne_a200_a209 : a200 ≠ a209 := Nat.ne_of_lt (Nat.lt_of_lt_of_le A_a200_208.lt (Nat.le_of_eq g_a209.symm))
  have A_a200_210 := A_a200_208.ext E210
  have ne_a202_a209 : a202 ≠ a209 := Nat.ne_of_lt (Nat.lt_of_lt_of_le A_a202_208.lt (Nat.le_of_eq g_a209.symm))
  have A_a202_210 := A_a202_208.ext E210
  have ne_a205_a209 : a205 ≠ a209 := Nat.ne_of_lt (Nat.lt_of_lt_of_le A_a205_208.lt (Nat.le_of_eq g_a209.symm))
  have A_a205_210 := A_a205_208.ext E210
  have A_a209 : OA Z h210 a209 .char [0, 0, 0] := A_a209
  have ST_210 := ST_208.ext E210
  refine o_dup W210 at_66 rfl (pc' := 67) rfl ?_
  refine o_iconst W210 (v := (0 : Int32)) at_67 rfl (pc' := 68) rfl ?_
  refine o_iload W210 at_68 (v := r196) rfl (pc' := 70) rfl ?_
  refine o_castore W210 A_a209 b_a209 at_70 (pc' := 71) rfl (i := 0) rfl (Nat.le_of_ble_eq_true rfl) ?_
  intro T211 h211 W211 K211 A_a209_211
  have A_a200_211 := A_a200_210.keep1 K211 ne_a200_a209
  have A_a202_211 := A_a202_210.keep1 K211 ne_a202_a209
  have A_a205_211 := A_a205_210.keep1 K211 ne_a205_a209
  have ST_211 := ST_210.keepA A_a209 K211
  have A_a209_211 : OA Z h211 a209 .char [(r196.toUInt32.toUInt16.toUInt32.toInt32), 0, 0] := A_a209_211
  refine o_dup W211 at_71 rfl (pc' := 72) rfl ?_
  refine o_iconst W211 (v := (1 : Int32)) at_72 rfl (pc' := 73) rfl ?_
  refine o_iload W211 at_73 (v := r197) rfl (pc' := 75) rfl ?_
  refine o_castore W211 A_a209_211 b_a209 at_75 (pc' := 76) rfl (i := 1) rfl (Nat.le_of_ble_eq_true rfl) ?_
  intro T212 h212 W212 K212 A_a209_212
  have A_a200_212 := A_a200_211.keep1 K212 ne_a200_a209
  have A_a202_212 := A_a202_211.keep1 K212 ne_a202_a209
  have A_a205_212 := A_a205_211.keep1 K212 ne_a205_a209
  have ST_212 := ST_211.keepA A_a209_211 K212
  have A_a209_212 : OA Z h212 a209 .char [(r196.toUInt32.toUInt16.toUInt32.toInt32), (r197.toUInt32.toUInt16.toUInt32.toInt32), 0] := A_a209_212
  refine o_dup W212 at_76 rfl (pc' := 77) rfl ?_
  refine o_iconst W212 (v := (2 : Int32)) at_77 rfl (pc' := 78) rfl ?_
  refine o_iload W212 at_78 (v := r198) rfl (pc' := 80) rfl ?_
  refine o_castore W212 A_a209_212 b_a209 at_80 (pc' := 81) rfl (i := 2) rfl (Nat.le_of_ble_eq_true rfl) ?_
  intro T213 h213 W213 K213 A_a209_213
  have A_a200_213 := A_a200_212.keep1 K213 ne_a200_a209
  have A_a202_213 := A_a202_212.keep1 K213 ne_a202_a209
  have A_a205_213 := A_a205_212.keep1 K213 ne_a205_a209
  have ST_213 := ST_212.keepA A_a209_212 K213
  have A_a209_213 : OA Z h213 a209 .char [(r196.toUInt32.toUInt16.toUInt32.toInt32), (r197.toUInt32.toUInt16.toUInt32.toInt32), (r198.toUInt32.toUInt16.toUInt32.toInt32)] := A_a209_213
  refine o_astore W213 (L' := #[.val (.int x0), .val (.int x1), .val (.int x2), .val (.int x3), .val (.int x4), .val (.int (2 : Int32)), .val (.int r196), .val (.int r197), .val (.int r198), .val (.int r199), .val (.ref a200), .val (.ref a202), .val (.ref a205), .val (.ref a209), .unset, .unset, .unset, .unset]) at_81 rfl rfl (pc' := 83) rfl ?_
  refine o_iconst W213 (v := (4 : Int32)) at_83 rfl (pc' := 84) rfl ?_
  refine o_newarray W213 (ty := .char) (len := 4) (cap := 4) (ow hw 5 rfl) rfl rfl rfl at_84 (pc' := 86) rfl rfl (by decide) (by decide) (by decide) (by decide) (kk' := 5) rfl (nn' := 10) rfl ?_
  intro T215 h215 a214 W215 E215 g_a214 A_a214
  have b_a214 : n0 ≤ a214 := by rw [g_a214]; exact W213.le
  have ne_a200_a214 : a200 ≠ a214 := Nat.ne_of_lt (Nat.lt_of_lt_of_le A_a200_213.lt (Nat.le_of_eq g_a214.symm))
  have A_a200_215 := A_a200_213.ext E215
  have ne_a202_a214 : a202 ≠ a214 := Nat.ne_of_lt (Nat.lt_of_lt_of_le A_a202_213.lt (Nat.le_of_eq g_a214.symm))
  have A_a202_215 := A_a202_213.ext E215
  have ne_a205_a214 : a205 ≠ a214 := Nat.ne_of_lt (Nat.lt_of_lt_of_le A_a205_213.lt (Nat.le_of_eq g_a214.symm))
  have A_a205_215 := A_a205_213.ext E215
  have ne_a209_a214 : a209 ≠ a214 := Nat.ne_of_lt (Nat.lt_of_lt_of_le A_a209_213.lt (Nat.le_of_eq g_a214.symm))
  have A_a209_215 := A_a209_213.ext E215
  have A_a214 : OA Z h215 a214 .char [0, 0, 0, 0] := A_a214
  have ST_215 := ST_213.ext E215
  refine o_dup W215 at_86 rfl (pc' := 87) rfl ?_
  refine o_iconst W215 (v := (0 : Int32)) at_87 rfl (pc' := 88) rfl ?_
  refine o_iload W215 at_88 (v := r196) rfl (pc' := 90) rfl ?_
  refine o_castore W215 A_a214 b_a214 at_90 (pc' := 91) rfl (i := 0) rfl (Nat.le_of_ble_eq_true rfl) ?_
  intro T216 h216 W216 K216 A_a214_216
  have A_a200_216 := A_a200_215.keep1 K216 ne_a200_a214
  have A_a202_216 := A_a202_215.keep1 K216 ne_a202_a214
  have A_a205_216 := A_a205_215.keep1 K216 ne_a205_a214
  have A_a209_216 := A_a209_215.keep1 K216 ne_a209_a214
  have ST_216 := ST_215.keepA A_a214 K216
  have A_a214_216 : OA Z h216 a214 .char [(r196.toUInt32.toUInt16.toUInt32.toInt32), 0, 0, 0] := A_a214_216
  refine o_dup W216 at_91 rfl (pc' := 92) rfl ?_
  refine o_iconst W216 (v := (1 : Int32)) at_92 rfl (pc' := 93) rfl ?_
  refine o_iload W216 at_93 (v := r197) rfl (pc' := 95) rfl ?_
  refine o_castore W216 A_a214_216 b_a214 at_95 (pc' := 96) rfl (i := 1) rfl (Nat.le_of_ble_eq_true rfl) ?_
  intro T217 h217 W217 K217 A_a214_217
  have A_a200_217 := A_a200_216.keep1 K217 ne_a200_a214
  have A_a202_217 := A_a202_216.keep1 K217 ne_a202_a214
  have A_a205_217 := A_a205_216.keep1 K217 ne_a205_a214
  have A_a209_217 := A_a209_216.keep1 K217 ne_a209_a214
  have ST_217 := ST_216.keepA A_a214_216 K217
  have A_a214_217 : OA Z h217 a214 .char [(r196.toUInt32.toUInt16.toUInt32.toInt32), (r197.toUInt32.toUInt16.toUInt32.toInt32), 0, 0] := A_a214_217
  refine o_dup W217 at_96 rfl (pc' := 97) rfl ?_
  refine o_iconst W217 (v := (2 : Int32)) at_97 rfl (pc' := 98) rfl ?_
  refine o_iload W217 at_98 (v := r198) rfl (pc' := 100) rfl ?_
  refine o_castore W217 A_a214_217 b_a214 at_100 (pc' := 101) rfl (i := 2) rfl (Nat.le_of_ble_eq_true rfl) ?_
  intro T218 h218 W218 K218 A_a214_218
  have A_a200_218 := A_a200_217.keep1 K218 ne_a200_a214
  have A_a202_218 := A_a202_217.keep1 K218 ne_a202_a214
  have A_a205_218 := A_a205_217.keep1 K218 ne_a205_a214
  have A_a209_218 := A_a209_217.keep1 K218 ne_a209_a214
  have ST_218 := ST_217.keepA A_a214_217 K218
  have A_a214_218 : OA Z h218 a214 .char [(r196.toUInt32.toUInt16.toUInt32.toInt32), (r197.toUInt32.toUInt16.toUInt32.toInt32), (r198.toUInt32.toUInt16.toUInt32.toInt32), 0] := A_a214_218
  refine o_dup W218 at_101 rfl (pc' := 102) rfl ?_
  refine o_iconst W218 (v := (3 : Int32)) at_102 rfl (pc' := 103) rfl ?_
  refine o_iload W218 at_103 (v := r199) rfl (pc' := 105) rfl ?_
  refine o_castore W218 A_a214_218 b_a214 at_105 (pc' := 106) rfl (i := 3) rfl (Nat.le_of_ble_eq_true rfl) ?_
  intro T219 h219 W219 K219 A_a214_219
  have A_a200_219 := A_a200_218.keep1 K219 ne_a200_a214
  have A_a202_219 := A_a202_218.keep1 K219 ne_a202_a214
  have A_a205_219 := A_a205_218.keep1 K219 ne_a205_a214
  have A_a209_219 := A_a209_218.keep1 K219 ne_a209_a214
  have ST_219 := ST_218.keepA A_a214_218 K219
  have A_a214_219 : OA Z h219 a214 .char [(r196.toUInt32.toUInt16.toUInt32.toInt32), (r197.toUInt32.toUInt16.toUInt32.toInt32), (r198.toUInt32.toUInt16.toUInt32.toInt32), (r199.toUInt32.toUInt16.toUInt32.toInt32)] := A_a214_219
  refine o_astore W219 (L' := #[.val (.int x0), .val (.int x1), .val (.int x2), .val (.int x3), .val (.int x4), .val (.int (2 : Int32)), .val (.int r196), .val (.int r197), .val (.int r198), .val (.int r199), .val (.ref a200), .val (.ref a202), .val (.ref a205), .val (.ref a209), .val (.ref a214), .unset, .unset, .unset]) at_106 rfl rfl (pc' := 108) rfl ?_
  have ACH : OA Z h219 a205 .char [r196, r197] := by
    have q := A_a205_219
    rw [own_i2c q196.1 q196.2] at q
    rw [own_i2c q197.1 q197.2] at q
    exact q
  refine o_iload W219 at_108 (v := (2 : Int32)) rfl (pc' := 110) rfl ?_
  refine o_if_ne W219 at_110 (by decide) (pq := 120) (by decide) (pc' := 113) rfl (fun hc110 => ?_) (fun hc110 => ?_)
  · refine o_iload W219 at_120 (v := (2 : Int32)) rfl (pc' := 122) rfl ?_
    refine o_iconst W219 (v := (1 : Int32)) at_122 rfl (pc' := 123) rfl ?_
    refine o_icmp_ne W219 at_123 (by decide) (pq := 133) (by decide) (pc' := 126) rfl (fun hc123 => ?_) (fun hc123 => ?_)
    · refine o_iload W219 at_133 (v := (2 : Int32)) rfl (pc' := 135) rfl ?_
      refine o_iconst W219 (v := (2 : Int32)) at_135 rfl (pc' := 136) rfl ?_
      refine o_icmp_ne W219 at_136 (by decide) (pq := 146) (by decide) (pc' := 139) rfl (fun hc136 => ?_) (fun hc136 => ?_)
      · exact absurd hc136 (by decide)
      · refine o_aload W219 at_139 (v := (.ref a205)) rfl rfl (pc' := 141) rfl ?_
        refine o_astore W219 (L' := #[.val (.int x0), .val (.int x1), .val (.int x2), .val (.int x3), .val (.int x4), .val (.int (2 : Int32)), .val (.int r196), .val (.int r197), .val (.int r198), .val (.int r199), .val (.ref a200), .val (.ref a202), .val (.ref a205), .val (.ref a209), .val (.ref a214), .val (.ref a205), .unset, .unset]) at_141 rfl rfl (pc' := 143) rfl ?_
        refine o_goto W219 at_143 (by decide) (pq := 163) (by decide) ?_
        refine o_new W219 (ow hw 6 rfl) (ow hw 7 rfl) (ow hw 8 rfl) at_163 (pc' := 166) rfl (by decide) (by decide) (kk' := 6) rfl (nn' := 14) rfl ?_
        intro T221 h221 a220 W221 E221 g_a220 X_a220 D_a220
        have b_a220 : n0 ≤ a220 := by rw [g_a220]; exact W219.le
        have ne_a205_a220 : a205 ≠ a220 := Nat.ne_of_lt (Nat.lt_of_lt_of_le ACH.lt (Nat.le_of_eq g_a220.symm))
        have A_a205_221 := ACH.ext E221
        have ST_221 := ST_219.ext E221
        have F_value_a220 : Fld Z h221 a220 "java/lang/String" "value" "[B" .null := D_a220 (Or.inr (ow hw 21 rfl)) (ty := (.array .byte)) (by decide)
        have F_coder_a220 : Fld Z h221 a220 "java/lang/String" "coder" "B" (.int (0 : Int32)) := D_a220 (Or.inr (ow hw 22 rfl)) (ty := .byte) (by decide)
        refine o_dup W221 at_166 rfl (pc' := 167) rfl ?_
        refine o_aload W221 at_167 (v := (.ref a205)) rfl rfl (pc' := 169) rfl ?_
        refine o_callC W221 (rm2_2 l Z a0 hw a220 a205 h221 n0 W221.le cs fm ST_221 hcs r196 r197 q196 q197 A_a205_221 X_a220 F_value_a220 F_coder_a220 b_a220) rfl (ow hw 9 rfl) (ow hw 10 rfl) (ow hw 8 rfl) (ow hw 11 rfl) (by decide) (argsL := [(.ref a205)]) (S := [(.ref a220)]) (lenOf own_pd19 rfl) rfl rfl rfl (wt := 1) rfl (by decide) (by decide) (by decide) (by decide) (kk' := 8) rfl (nn' := 20) rfl at_169 (pc' := 172) rfl ?_
        intro T222 h222 W222 q222 z222
        obtain ⟨XS, KS, ST_222, rb, FV, q222⟩ := q222
        rcases q222 with ⟨hall, FC, AR⟩ | ⟨FC, AR⟩
        · refine o_astore W222 (L' := #[.val (.int x0), .val (.int x1), .val (.int x2), .val (.int x3), .val (.int x4), .val (.int (2 : Int32)), .val (.int r196), .val (.int r197), .val (.int r198), .val (.int r199), .val (.ref a200), .val (.ref a202), .val (.ref a205), .val (.ref a209), .val (.ref a214), .val (.ref a205), .val (.ref a220), .unset]) at_172 rfl rfl (pc' := 174) rfl ?_
          refine o_iconst W222 (v := (1 : Int32)) at_174 rfl (pc' := 175) rfl ?_
          refine o_istore W222 (L' := #[.val (.int x0), .val (.int x1), .val (.int x2), .val (.int x3), .val (.int x4), .val (.int (2 : Int32)), .val (.int r196), .val (.int r197), .val (.int r198), .val (.int r199), .val (.ref a200), .val (.ref a202), .val (.ref a205), .val (.ref a209), .val (.ref a214), .val (.ref a205), .val (.ref a220), .val (.int (1 : Int32))]) at_175 rfl (pc' := 177) rfl ?_
          refine o_iload W222 at_177 (v := (2 : Int32)) rfl (pc' := 179) rfl ?_
          refine o_if_le W222 at_179 (by decide) (pq := 193) (by decide) (pc' := 182) rfl (fun hc179 => ?_) (fun hc179 => ?_)
          · exact absurd hc179 (by decide)
          · refine o_iload W222 at_182 (v := r196) rfl (pc' := 184) rfl ?_
            refine o_callSI W222 (rm18 l Z a0 hw r196 h222 n0 W222.le) (ow hw 81 rfl) (ow hw 82 rfl) (ow hw 2 rfl) (ow hw 83 rfl) (by decide) (argsL := [(.int r196)]) (S := []) (lenOf own_pd20 rfl) rfl rfl rfl (wt := 0) rfl (by decide) (by decide) (by decide) (by decide) (kk' := 8) rfl (nn' := 20) rfl at_184 (pc' := 187) rfl ?_
            intro r223 T223 h223 W223 q223 z223
            obtain ⟨q223, rfl⟩ := q223
            refine OF.join (fun j224 : Int32 => (j224.toInt = 1 ∧ ¬ (r196.toInt = 42 ∨ r196.toInt = 63)) ∨ (j224.toInt = 0 ∧ (r196.toInt = 42 ∨ r196.toInt = 63))) (fun _ => T223) (fun j224 => mkF m 193 #[.val (.int x0), .val (.int x1), .val (.int x2), .val (.int x3), .val (.int x4), .val (.int (2 : Int32)), .val (.int r196), .val (.int r197), .val (.int r198), .val (.int r199), .val (.ref a200), .val (.ref a202), .val (.ref a205), .val (.ref a209), .val (.ref a214), .val (.ref a205), .val (.ref a220), .val (.int j224)] []) (fun j224 hj224 => ?_) (fun k_j224 => ?_)
            · refine o_iload W223 at_193 (v := (2 : Int32)) rfl (pc' := 195) rfl ?_
              refine o_iconst W223 (v := (1 : Int32)) at_195 rfl (pc' := 196) rfl ?_
              refine o_icmp_le W223 at_196 (by decide) (pq := 210) (by decide) (pc' := 199) rfl (fun hc196 => ?_) (fun hc196 => ?_)
              · exact absurd hc196 (by decide)
              · refine o_iload W223 at_199 (v := r197) rfl (pc' := 201) rfl ?_
                refine o_callSI W223 (rm18 l Z a0 hw r197 h222 n0 W223.le) (ow hw 81 rfl) (ow hw 82 rfl) (ow hw 2 rfl) (ow hw 83 rfl) (by decide) (argsL := [(.int r197)]) (S := []) (lenOf own_pd20 rfl) rfl rfl rfl (wt := 0) rfl (by decide) (by decide) (by decide) (by decide) (kk' := 8) rfl (nn' := 20) rfl at_201 (pc' := 204) rfl ?_
                intro r225 T225 h225 W225 q225 z225
                obtain ⟨q225, rfl⟩ := q225
                refine OF.join (fun j226 : Int32 => (j226.toInt = 1 ∧ ¬ (r196.toInt = 42 ∨ r196.toInt = 63 ∨ r197.toInt = 42 ∨ r197.toInt = 63)) ∨ (j226.toInt = 0 ∧ (r196.toInt = 42 ∨ r196.toInt = 63 ∨ r197.toInt = 42 ∨ r197.toInt = 63))) (fun _ => T225) (fun j226 => mkF m 210 #[.val (.int x0), .val (.int x1), .val (.int x2), .val (.int x3), .val (.int x4), .val (.int (2 : Int32)), .val (.int r196), .val (.int r197), .val (.int r198), .val (.int r199), .val (.ref a200), .val (.ref a202), .val (.ref a205), .val (.ref a209), .val (.ref a214), .val (.ref a205), .val (.ref a220), .val (.int j226)] []) (fun j226 hj226 => ?_) (fun k_j226 => ?_)
                · refine o_iload W225 at_210 (v := (2 : Int32)) rfl (pc' := 212) rfl ?_
                  refine o_iconst W225 (v := (2 : Int32)) at_212 rfl (pc' := 213) rfl ?_
                  refine o_icmp_le W225 at_213 (by decide) (pq := 227) (by decide) (pc' := 216) rfl (fun hc213 => ?_) (fun hc213 => ?_)
                  · refine o_iload W225 at_227 (v := (2 : Int32)) rfl (pc' := 229) rfl ?_
                    refine o_iconst W225 (v := (3 : Int32)) at_229 rfl (pc' := 230) rfl ?_
                    refine o_icmp_le W225 at_230 (by decide) (pq := 244) (by decide) (pc' := 233) rfl (fun hc230 => ?_) (fun hc230 => ?_)
                    · refine o_aload W225 at_244 (v := (.ref a220)) rfl rfl (pc' := 246) rfl ?_
                      refine o_callSI W225 (rm5_2L l Z a0 hw a220 h222 n0 W225.le cs fm ST_222 hcs hfm r196 r197 q196 q197 hall rb XS FV FC AR) (ow hw 27 rfl) (ow hw 28 rfl) (ow hw 29 rfl) (ow hw 30 rfl) (by decide) (argsL := [(.ref a220)]) (S := []) (lenOf own_pd21 rfl) rfl rfl rfl (wt := 0) rfl (by decide) (by decide) (by decide) (by decide) (kk' := 8) rfl (nn' := 20) rfl at_246 (pc' := 249) rfl ?_
                      intro r227 T227 h227 W227 q227 z227
                      obtain ⟨q227, rfl⟩ := q227
                      refine o_iload W227 at_249 (v := j226) rfl (pc' := 251) rfl ?_
                      refine o_icmp_ne W227 at_251 (by decide) (pq := 258) (by decide) (pc' := 254) rfl (fun hc251 => ?_) (fun hc251 => ?_)
                      · exfalso
                        have c0 : (0 : Int32).toInt = 0 := rfl
                        have c1 : (1 : Int32).toInt = 1 := rfl
                        rcases q227 with ⟨rfl, u⟩ | ⟨rfl, u⟩ <;> omega
                      · refine o_iconst W227 (v := (1 : Int32)) at_254 rfl (pc' := 255) rfl ?_
                        refine o_goto W227 at_255 (by decide) (pq := 259) (by decide) ?_
                        refine o_retN W227 (t := .boolean) rfl (by simp) at_259 (by decide) (by decide) ?_
                        exact rfl
                    · exact absurd hc230 (by decide)
                  · exact absurd hc213 (by decide)
                refine o_if_eq W225 at_204 (by decide) (pq := 210) (by decide) (pc' := 207) rfl (fun hc204 => ?_) (fun hc204 => ?_)
                · exact k_j226 j224 (by have c0 : (0 : Int32).toInt = 0 := rfl; have c1 : (1 : Int32).toInt = 1 := rfl; rcases q225 with ⟨rfl, u⟩ | ⟨rfl, u⟩ <;> omega)
                · refine o_iconst W225 (v := (0 : Int32)) at_207 rfl (pc' := 208) rfl ?_
                  refine o_istore W225 (L' := #[.val (.int x0), .val (.int x1), .val (.int x2), .val (.int x3), .val (.int x4), .val (.int (2 : Int32)), .val (.int r196), .val (.int r197), .val (.int r198), .val (.int r199), .val (.ref a200), .val (.ref a202), .val (.ref a205), .val (.ref a209), .val (.ref a214), .val (.ref a205), .val (.ref a220), .val (.int (0 : Int32))]) at_208 rfl (pc' := 210) rfl ?_
                  exact k_j226 (0 : Int32) (by have c0 : (0 : Int32).toInt = 0 := rfl; have c1 : (1 : Int32).toInt = 1 := rfl; rcases q225 with ⟨rfl, u⟩ | ⟨rfl, u⟩ <;> omega)
            refine o_if_eq W223 at_187 (by decide) (pq := 193) (by decide) (pc' := 190) rfl (fun hc187 => ?_) (fun hc187 => ?_)
            · exact k_j224 (1 : Int32) (by have c0 : (0 : Int32).toInt = 0 := rfl; have c1 : (1 : Int32).toInt = 1 := rfl; rcases q223 with ⟨rfl, u⟩ | ⟨rfl, u⟩ <;> omega)
            · refine o_iconst W223 (v := (0 : Int32)) at_190 rfl (pc' := 191) rfl ?_
              refine o_istore W223 (L' := #[.val (.int x0), .val (.int x1), .val (.int x2), .val (.int x3), .val (.int x4), .val (.int (2 : Int32)), .val (.int r196), .val (.int r197), .val (.int r198), .val (.int r199), .val (.ref a200), .val (.ref a202), .val (.ref a205), .val (.ref a209), .val (.ref a214), .val (.ref a205), .val (.ref a220), .val (.int (0 : Int32))]) at_191 rfl (pc' := 193) rfl ?_
              exact k_j224 (0 : Int32) (by have c0 : (0 : Int32).toInt = 0 := rfl; have c1 : (1 : Int32).toInt = 1 := rfl; rcases q223 with ⟨rfl, u⟩ | ⟨rfl, u⟩ <;> omega)
        · refine o_astore W222 (L' := #[.val (.int x0), .val (.int x1), .val (.int x2), .val (.int x3), .val (.int x4), .val (.int (2 : Int32)), .val (.int r196), .val (.int r197), .val (.int r198), .val (.int r199), .val (.ref a200), .val (.ref a202), .val (.ref a205), .val (.ref a209), .val (.ref a214), .val (.ref a205), .val (.ref a220), .unset]) at_172 rfl rfl (pc' := 174) rfl ?_
          refine o_iconst W222 (v := (1 : Int32)) at_174 rfl (pc' := 175) rfl ?_
          refine o_istore W222 (L' := #[.val (.int x0), .val (.int x1), .val (.int x2), .val (.int x3), .val (.int x4), .val (.int (2 : Int32)), .val (.int r196), .val (.int r197), .val (.int r198), .val (.int r199), .val (.ref a200), .val (.ref a202), .val (.ref a205), .val (.ref a209), .val (.ref a214), .val (.ref a205), .val (.ref a220), .val (.int (1 : Int32))]) at_175 rfl (pc' := 177) rfl ?_
          refine o_iload W222 at_177 (v := (2 : Int32)) rfl (pc' := 179) rfl ?_
          refine o_if_le W222 at_179 (by decide) (pq := 193) (by decide) (pc' := 182) rfl (fun hc179 => ?_) (fun hc179 => ?_)
          · exact absurd hc179 (by decide)
          · refine o_iload W222 at_182 (v := r196) rfl (pc' := 184) rfl ?_
            refine o_callSI W222 (rm18 l Z a0 hw r196 h222 n0 W222.le) (ow hw 81 rfl) (ow hw 82 rfl) (ow hw 2 rfl) (ow hw 83 rfl) (by decide) (argsL := [(.int r196)]) (S := []) (lenOf own_pd20 rfl) rfl rfl rfl (wt := 0) rfl (by decide) (by decide) (by decide) (by decide) (kk' := 8) rfl (nn' := 20) rfl at_184 (pc' := 187) rfl ?_
            intro r228 T228 h228 W228 q228 z228
            obtain ⟨q228, rfl⟩ := q228
            refine OF.join (fun j229 : Int32 => (j229.toInt = 1 ∧ ¬ (r196.toInt = 42 ∨ r196.toInt = 63)) ∨ (j229.toInt = 0 ∧ (r196.toInt = 42 ∨ r196.toInt = 63))) (fun _ => T228) (fun j229 => mkF m 193 #[.val (.int x0), .val (.int x1), .val (.int x2), .val (.int x3), .val (.int x4), .val (.int (2 : Int32)), .val (.int r196), .val (.int r197), .val (.int r198), .val (.int r199), .val (.ref a200), .val (.ref a202), .val (.ref a205), .val (.ref a209), .val (.ref a214), .val (.ref a205), .val (.ref a220), .val (.int j229)] []) (fun j229 hj229 => ?_) (fun k_j229 => ?_)
            · refine o_iload W228 at_193 (v := (2 : Int32)) rfl (pc' := 195) rfl ?_
              refine o_iconst W228 (v := (1 : Int32)) at_195 rfl (pc' := 196) rfl ?_
              refine o_icmp_le W228 at_196 (by decide) (pq := 210) (by decide) (pc' := 199) rfl (fun hc196 => ?_) (fun hc196 => ?_)
              · exact absurd hc196 (by decide)
              · refine o_iload W228 at_199 (v := r197) rfl (pc' := 201) rfl ?_
                refine o_callSI W228 (rm18 l Z a0 hw r197 h222 n0 W228.le) (ow hw 81 rfl) (ow hw 82 rfl) (ow hw 2 rfl) (ow hw 83 rfl) (by decide) (argsL := [(.int r197)]) (S := []) (lenOf own_pd20 rfl) rfl rfl rfl (wt := 0) rfl (by decide) (by decide) (by decide) (by decide) (kk' := 8) rfl (nn' := 20) rfl at_201 (pc' := 204) rfl ?_
                intro r230 T230 h230 W230 q230 z230
                obtain ⟨q230, rfl⟩ := q230
                refine OF.join (fun j231 : Int32 => (j231.toInt = 1 ∧ ¬ (r196.toInt = 42 ∨ r196.toInt = 63 ∨ r197.toInt = 42 ∨ r197.toInt = 63)) ∨ (j231.toInt = 0 ∧ (r196.toInt = 42 ∨ r196.toInt = 63 ∨ r197.toInt = 42 ∨ r197.toInt = 63))) (fun _ => T230) (fun j231 => mkF m 210 #[.val (.int x0), .val (.int x1), .val (.int x2), .val (.int x3), .val (.int x4), .val (.int (2 : Int32)), .val (.int r196), .val (.int r197), .val (.int r198), .val (.int r199), .val (.ref a200), .val (.ref a202), .val (.ref a205), .val (.ref a209), .val (.ref a214), .val (.ref a205), .val (.ref a220), .val (.int j231)] []) (fun j231 hj231 => ?_) (fun k_j231 => ?_)
                · refine o_iload W230 at_210 (v := (2 : Int32)) rfl (pc' := 212) rfl ?_
                  refine o_iconst W230 (v := (2 : Int32)) at_212 rfl (pc' := 213) rfl ?_
                  refine o_icmp_le W230 at_213 (by decide) (pq := 227) (by decide) (pc' := 216) rfl (fun hc213 => ?_) (fun hc213 => ?_)
                  · refine o_iload W230 at_227 (v := (2 : Int32)) rfl (pc' := 229) rfl ?_
                    refine o_iconst W230 (v := (3 : Int32)) at_229 rfl (pc' := 230) rfl ?_
                    refine o_icmp_le W230 at_230 (by decide) (pq := 244) (by decide) (pc' := 233) rfl (fun hc230 => ?_) (fun hc230 => ?_)
                    · refine o_aload W230 at_244 (v := (.ref a220)) rfl rfl (pc' := 246) rfl ?_
                      refine o_callSI W230 (rm5_2U l Z a0 hw a220 h222 n0 W230.le cs fm ST_222 hcs hfm r196 r197 q196 q197 rb XS FV FC AR) (ow hw 27 rfl) (ow hw 28 rfl) (ow hw 29 rfl) (ow hw 30 rfl) (by decide) (argsL := [(.ref a220)]) (S := []) (lenOf own_pd21 rfl) rfl rfl rfl (wt := 0) rfl (by decide) (by decide) (by decide) (by decide) (kk' := 8) rfl (nn' := 20) rfl at_246 (pc' := 249) rfl ?_
                      intro r232 T232 h232 W232 q232 z232
                      obtain ⟨q232, rfl⟩ := q232
                      refine o_iload W232 at_249 (v := j231) rfl (pc' := 251) rfl ?_
                      refine o_icmp_ne W232 at_251 (by decide) (pq := 258) (by decide) (pc' := 254) rfl (fun hc251 => ?_) (fun hc251 => ?_)
                      · exfalso
                        have c0 : (0 : Int32).toInt = 0 := rfl
                        have c1 : (1 : Int32).toInt = 1 := rfl
                        rcases q232 with ⟨rfl, u⟩ | ⟨rfl, u⟩ <;> omega
                      · refine o_iconst W232 (v := (1 : Int32)) at_254 rfl (pc' := 255) rfl ?_
                        refine o_goto W232 at_255 (by decide) (pq := 259) (by decide) ?_
                        refine o_retN W232 (t := .boolean) rfl (by simp) at_259 (by decide) (by decide) ?_
                        exact rfl
                    · exact absurd hc230 (by decide)
                  · exact absurd hc213 (by decide)
                refine o_if_eq W230 at_204 (by decide) (pq := 210) (by decide) (pc' := 207) rfl (fun hc204 => ?_) (fun hc204 => ?_)
                · exact k_j231 j229 (by have c0 : (0 : Int32).toInt = 0 := rfl; have c1 : (1 : Int32).toInt = 1 := rfl; rcases q230 with ⟨rfl, u⟩ | ⟨rfl, u⟩ <;> omega)
                · refine o_iconst W230 (v := (0 : Int32)) at_207 rfl (pc' := 208) rfl ?_
                  refine o_istore W230 (L' := #[.val (.int x0), .val (.int x1), .val (.int x2), .val (.int x3), .val (.int x4), .val (.int (2 : Int32)), .val (.int r196), .val (.int r197), .val (.int r198), .val (.int r199), .val (.ref a200), .val (.ref a202), .val (.ref a205), .val (.ref a209), .val (.ref a214), .val (.ref a205), .val (.ref a220), .val (.int (0 : Int32))]) at_208 rfl (pc' := 210) rfl ?_
                  exact k_j231 (0 : Int32) (by have c0 : (0 : Int32).toInt = 0 := rfl; have c1 : (1 : Int32).toInt = 1 := rfl; rcases q230 with ⟨rfl, u⟩ | ⟨rfl, u⟩ <;> omega)
            refine o_if_eq W228 at_187 (by decide) (pq := 193) (by decide) (pc' := 190) rfl (fun hc187 => ?_) (fun hc187 => ?_)
            · exact k_j229 (1 : Int32) (by have c0 : (0 : Int32).toInt = 0 := rfl; have c1 : (1 : Int32).toInt = 1 := rfl; rcases q228 with ⟨rfl, u⟩ | ⟨rfl, u⟩ <;> omega)
            · refine o_iconst W228 (v := (0 : Int32)) at_190 rfl (pc' := 191) rfl ?_
              refine o_istore W228 (L' := #[.val (.int x0), .val (.int x1), .val (.int x2), .val (.int x3), .val (.int x4), .val (.int (2 : Int32)), .val (.int r196), .val (.int r197), .val (.int r198), .val (.int r199), .val (.ref a200), .val (.ref a202), .val (.ref a205), .val (.ref a209), .val (.ref a214), .val (.ref a205), .val (.ref a220), .val (.int (0 : Int32))]) at_191 rfl (pc' := 193) rfl ?_
              exact k_j229 (0 : Int32) (by have c0 : (0 : Int32).toInt = 0 := rfl; have c1 : (1 : Int32).toInt = 1 := rfl; rcases q228 with ⟨rfl, u⟩ | ⟨rfl, u⟩ <;> omega)
    · exact absurd hc123 (by decide)
  · exact absurd hc110 (by decide)
theorem own_ef16_3 (m : MethodId) (z0 : Addr) (z1 : Int32) (z2 : Addr) (z3 : Int32) (z4 : Int32) : entryFrame m #[(.ref z0), (.int z1), (.ref z2), (.int z3), (.int z4)] 7 = mkF m 0 #[.val (.ref z0), .val (.int z1), .val (.ref z2), .val (.int z3), .val (.int z4), .unset, .unset] [] := by first | (simp [entryFrame, mkF, argsToLocals, Value.category]; done) | rfl
set_option maxRecDepth 65536 in
set_option maxHeartbeats 4000000 in
theorem rm16_3 (l : Launch) (Z : State) (a0 : Array Value) (hw : ∀ d ∈ tables_1, d.before a0 Z = true) (b0 b1 : Addr) (h0 : Heap) (n0 : Nat) (Z0 : n0 ≤ h0.size) (cs : Int32) (fm : Value) (ST : OSt Z h0 cs fm) (k0 k1 k2 : Int32) (hk0 : 0 ≤ k0.toInt ∧ k0.toInt ≤ 65535) (hk1 : 0 ≤ k1.toInt ∧ k1.toInt ≤ 65535) (hk2 : 0 ≤ k2.toInt ∧ k2.toInt ≤ 65535) (A0 : OA Z h0 b0 .char [k0, k1, k2]) (A1 : OA Z h0 b1 .byte [0, 0, 0]) (g1 : n0 ≤ b1) (ne_b0_b1 : b0 ≠ b1) :
    OCon l Z (⟨"java/lang/StringUTF16", "compress", "([CI[BII)I"⟩ : MethodName) jdk_52_method_21_code 7 (some .int) [] ({ frames := 0, cells := 0, slots := 0, locals := 0 } : Room) #[(.ref b0), (.int (0 : Int32)), (.ref b1), (.int (0 : Int32)), (.int (3 : Int32))] h0 n0 (QI fun r h' => Keep h0 h' [b1] ∧ OSt Z h' cs fm ∧ ((r = (0 : Int32) ∧ 255 < k0.toInt) ∨ (r = (1 : Int32) ∧ 255 < k1.toInt) ∨ (r = (2 : Int32) ∧ 255 < k2.toInt) ∨ (r = (3 : Int32) ∧ (k0.toInt ≤ 255 ∧ k1.toInt ≤ 255 ∧ k2.toInt ≤ 255) ∧ OA Z h' b1 .byte [own_b k0, own_b k1, own_b k2]))) := by
  refine OCon.mk (plainFor_of_name own_pn2) Z0 ?_
  intro p e s m below meth cd s₁ W0
  refine OF.cast (own_ef16_3 m b0 (0 : Int32) b1 (0 : Int32) (3 : Int32)) ?_
  have c_0___Int32_ : (0 : Int32).toInt = 0 := rfl
  have c_1___Int32_ : (1 : Int32).toInt = 1 := rfl
  have c_2___Int32_ : (2 : Int32).toInt = 2 := rfl
  have c_255___Int32_ : (255 : Int32).toInt = 255 := rfl
  have c_3___Int32_ : (3 : Int32).toInt = 3 := rfl
  refine o_iconst W0 (v := (0 : Int32)) own_d16_0 rfl (pc' := 1) rfl ?_
  refine o_istore W0 (L' := #[.val (.ref b0), .val (.int (0 : Int32)), .val (.ref b1), .val (.int (0 : Int32)), .val (.int (3 : Int32)), .val (.int (0 : Int32)), .unset]) own_d16_1 rfl (pc' := 3) rfl ?_
  refine o_iload W0 own_d16_3 (v := (0 : Int32)) rfl (pc' := 5) rfl ?_
  refine o_iload W0 own_d16_5 (v := (3 : Int32)) rfl (pc' := 7) rfl ?_
  refine o_icmp_ge W0 own_d16_7 (by decide) (pq := 44) (by decide) (pc' := 10) rfl (fun hc7 => ?_) (fun hc7 => ?_)
  · exact absurd hc7 (by decide)
  · refine o_aloadN W0 own_d16_10 (v := (.ref b0)) rfl rfl (pc' := 11) rfl ?_
    refine o_iloadN W0 own_d16_11 (v := (0 : Int32)) rfl (pc' := 12) rfl ?_
    refine o_caload W0 A0 own_d16_12 (pc' := 13) rfl (i := 0) (v := k0) rfl rfl ?_
    refine o_istore W0 (L' := #[.val (.ref b0), .val (.int (0 : Int32)), .val (.ref b1), .val (.int (0 : Int32)), .val (.int (3 : Int32)), .val (.int (0 : Int32)), .val (.int k0)]) own_d16_13 rfl (pc' := 15) rfl ?_
    refine o_iload W0 own_d16_15 (v := k0) rfl (pc' := 17) rfl ?_
    refine o_sipush W0 (v := (255 : Int32)) own_d16_17 rfl (pc' := 20) rfl ?_
    refine o_icmp_le W0 own_d16_20 (by decide) (pq := 26) (by decide) (pc' := 23) rfl (fun hc20 => ?_) (fun hc20 => ?_)
    · refine o_aloadN W0 own_d16_26 (v := (.ref b1)) rfl rfl (pc' := 27) rfl ?_
      refine o_iloadN W0 own_d16_27 (v := (0 : Int32)) rfl (pc' := 28) rfl ?_
      refine o_iload W0 own_d16_28 (v := k0) rfl (pc' := 30) rfl ?_
      refine o_i2b W0 own_d16_30 (pc' := 31) rfl ?_
      refine o_bastore W0 A1 g1 own_d16_31 (pc' := 32) rfl (i := 0) rfl (Nat.le_of_ble_eq_true rfl) ?_
      intro T233 h233 W233 K233 A_b1_233
      have A_b0_233 := A0.keep1 K233 ne_b0_b1
      have ST_233 := ST.keepA A1 K233
      have A_b1_233 : OA Z h233 b1 .byte [((k0.toInt8.toInt32).toInt8.toInt32), 0, 0] := A_b1_233
      have KK_K233 : Keep h0 h233 [b1] := (Keep.refl _ _).trans K233 (fun x hx => Or.inl hx)
      refine o_iinc W233 (x := (0 : Int32)) (L' := #[.val (.ref b0), .val (.int ((0 : Int32) + (1 : Int32))), .val (.ref b1), .val (.int (0 : Int32)), .val (.int (3 : Int32)), .val (.int (0 : Int32)), .val (.int k0)]) own_d16_32 rfl rfl (pc' := 35) rfl ?_
      show OF _ _ _ _ _ _ _ T233 (mkF m 35 #[.val (.ref b0), .val (.int (1 : Int32)), .val (.ref b1), .val (.int (0 : Int32)), .val (.int (3 : Int32)), .val (.int (0 : Int32)), .val (.int k0)] [])
      refine o_iinc W233 (x := (0 : Int32)) (L' := #[.val (.ref b0), .val (.int (1 : Int32)), .val (.ref b1), .val (.int ((0 : Int32) + (1 : Int32))), .val (.int (3 : Int32)), .val (.int (0 : Int32)), .val (.int k0)]) own_d16_35 rfl rfl (pc' := 38) rfl ?_
      show OF _ _ _ _ _ _ _ T233 (mkF m 38 #[.val (.ref b0), .val (.int (1 : Int32)), .val (.ref b1), .val (.int (1 : Int32)), .val (.int (3 : Int32)), .val (.int (0 : Int32)), .val (.int k0)] [])
      refine o_iinc W233 (x := (0 : Int32)) (L' := #[.val (.ref b0), .val (.int (1 : Int32)), .val (.ref b1), .val (.int (1 : Int32)), .val (.int (3 : Int32)), .val (.int ((0 : Int32) + (1 : Int32))), .val (.int k0)]) own_d16_38 rfl rfl (pc' := 41) rfl ?_
      show OF _ _ _ _ _ _ _ T233 (mkF m 41 #[.val (.ref b0), .val (.int (1 : Int32)), .val (.ref b1), .val (.int (1 : Int32)), .val (.int (3 : Int32)), .val (.int (1 : Int32)), .val (.int k0)] [])
      refine o_goto W233 own_d16_41 (by decide) (pq := 3) (by decide) ?_
      refine o_iload W233 own_d16_3 (v := (1 : Int32)) rfl (pc' := 5) rfl ?_
      refine o_iload W233 own_d16_5 (v := (3 : Int32)) rfl (pc' := 7) rfl ?_
      refine o_icmp_ge W233 own_d16_7 (by decide) (pq := 44) (by decide) (pc' := 10) rfl (fun hc7 => ?_) (fun hc7 => ?_)
      · exact absurd hc7 (by decide)
      · refine o_aloadN W233 own_d16_10 (v := (.ref b0)) rfl rfl (pc' := 11) rfl ?_
        refine o_iloadN W233 own_d16_11 (v := (1 : Int32)) rfl (pc' := 12) rfl ?_
        refine o_caload W233 A_b0_233 own_d16_12 (pc' := 13) rfl (i := 1) (v := k1) rfl rfl ?_
        refine o_istore W233 (L' := #[.val (.ref b0), .val (.int (1 : Int32)), .val (.ref b1), .val (.int (1 : Int32)), .val (.int (3 : Int32)), .val (.int (1 : Int32)), .val (.int k1)]) own_d16_13 rfl (pc' := 15) rfl ?_
        refine o_iload W233 own_d16_15 (v := k1) rfl (pc' := 17) rfl ?_
        refine o_sipush W233 (v := (255 : Int32)) own_d16_17 rfl (pc' := 20) rfl ?_
        refine o_icmp_le W233 own_d16_20 (by decide) (pq := 26) (by decide) (pc' := 23) rfl (fun hc20 => ?_) (fun hc20 => ?_)
        · refine o_aloadN W233 own_d16_26 (v := (.ref b1)) rfl rfl (pc' := 27) rfl ?_
          refine o_iloadN W233 own_d16_27 (v := (1 : Int32)) rfl (pc' := 28) rfl ?_
          refine o_iload W233 own_d16_28 (v := k1) rfl (pc' := 30) rfl ?_
          refine o_i2b W233 own_d16_30 (pc' := 31) rfl ?_
          refine o_bastore W233 A_b1_233 g1 own_d16_31 (pc' := 32) rfl (i := 1) rfl (Nat.le_of_ble_eq_true rfl) ?_
          intro T234 h234 W234 K234 A_b1_234
          have A_b0_234 := A_b0_233.keep1 K234 ne_b0_b1
          have ST_234 := ST_233.keepA A_b1_233 K234
          have A_b1_234 : OA Z h234 b1 .byte [((k0.toInt8.toInt32).toInt8.toInt32), ((k1.toInt8.toInt32).toInt8.toInt32), 0] := A_b1_234
          have KK_K234 : Keep h0 h234 [b1] := (KK_K233).trans K234 (fun x hx => Or.inl hx)
          refine o_iinc W234 (x := (1 : Int32)) (L' := #[.val (.ref b0), .val (.int ((1 : Int32) + (1 : Int32))), .val (.ref b1), .val (.int (1 : Int32)), .val (.int (3 : Int32)), .val (.int (1 : Int32)), .val (.int k1)]) own_d16_32 rfl rfl (pc' := 35) rfl ?_
          show OF _ _ _ _ _ _ _ T234 (mkF m 35 #[.val (.ref b0), .val (.int (2 : Int32)), .val (.ref b1), .val (.int (1 : Int32)), .val (.int (3 : Int32)), .val (.int (1 : Int32)), .val (.int k1)] [])
          refine o_iinc W234 (x := (1 : Int32)) (L' := #[.val (.ref b0), .val (.int (2 : Int32)), .val (.ref b1), .val (.int ((1 : Int32) + (1 : Int32))), .val (.int (3 : Int32)), .val (.int (1 : Int32)), .val (.int k1)]) own_d16_35 rfl rfl (pc' := 38) rfl ?_
          show OF _ _ _ _ _ _ _ T234 (mkF m 38 #[.val (.ref b0), .val (.int (2 : Int32)), .val (.ref b1), .val (.int (2 : Int32)), .val (.int (3 : Int32)), .val (.int (1 : Int32)), .val (.int k1)] [])
          refine o_iinc W234 (x := (1 : Int32)) (L' := #[.val (.ref b0), .val (.int (2 : Int32)), .val (.ref b1), .val (.int (2 : Int32)), .val (.int (3 : Int32)), .val (.int ((1 : Int32) + (1 : Int32))), .val (.int k1)]) own_d16_38 rfl rfl (pc' := 41) rfl ?_
          show OF _ _ _ _ _ _ _ T234 (mkF m 41 #[.val (.ref b0), .val (.int (2 : Int32)), .val (.ref b1), .val (.int (2 : Int32)), .val (.int (3 : Int32)), .val (.int (2 : Int32)), .val (.int k1)] [])
          refine o_goto W234 own_d16_41 (by decide) (pq := 3) (by decide) ?_
          refine o_iload W234 own_d16_3 (v := (2 : Int32)) rfl (pc' := 5) rfl ?_
          refine o_iload W234 own_d16_5 (v := (3 : Int32)) rfl (pc' := 7) rfl ?_
          refine o_icmp_ge W234 own_d16_7 (by decide) (pq := 44) (by decide) (pc' := 10) rfl (fun hc7 => ?_) (fun hc7 => ?_)
          · exact absurd hc7 (by decide)
          · refine o_aloadN W234 own_d16_10 (v := (.ref b0)) rfl rfl (pc' := 11) rfl ?_
            refine o_iloadN W234 own_d16_11 (v := (2 : Int32)) rfl (pc' := 12) rfl ?_
            refine o_caload W234 A_b0_234 own_d16_12 (pc' := 13) rfl (i := 2) (v := k2) rfl rfl ?_
            refine o_istore W234 (L' := #[.val (.ref b0), .val (.int (2 : Int32)), .val (.ref b1), .val (.int (2 : Int32)), .val (.int (3 : Int32)), .val (.int (2 : Int32)), .val (.int k2)]) own_d16_13 rfl (pc' := 15) rfl ?_
            refine o_iload W234 own_d16_15 (v := k2) rfl (pc' := 17) rfl ?_
            refine o_sipush W234 (v := (255 : Int32)) own_d16_17 rfl (pc' := 20) rfl ?_
            refine o_icmp_le W234 own_d16_20 (by decide) (pq := 26) (by decide) (pc' := 23) rfl (fun hc20 => ?_) (fun hc20 => ?_)
            · refine o_aloadN W234 own_d16_26 (v := (.ref b1)) rfl rfl (pc' := 27) rfl ?_
              refine o_iloadN W234 own_d16_27 (v := (2 : Int32)) rfl (pc' := 28) rfl ?_
              refine o_iload W234 own_d16_28 (v := k2) rfl (pc' := 30) rfl ?_
              refine o_i2b W234 own_d16_30 (pc' := 31) rfl ?_
              refine o_bastore W234 A_b1_234 g1 own_d16_31 (pc' := 32) rfl (i := 2) rfl (Nat.le_of_ble_eq_true rfl) ?_
              intro T235 h235 W235 K235 A_b1_235
              have A_b0_235 := A_b0_234.keep1 K235 ne_b0_b1
              have ST_235 := ST_234.keepA A_b1_234 K235
              have A_b1_235 : OA Z h235 b1 .byte [((k0.toInt8.toInt32).toInt8.toInt32), ((k1.toInt8.toInt32).toInt8.toInt32), ((k2.toInt8.toInt32).toInt8.toInt32)] := A_b1_235
              have KK_K235 : Keep h0 h235 [b1] := (KK_K234).trans K235 (fun x hx => Or.inl hx)
              refine o_iinc W235 (x := (2 : Int32)) (L' := #[.val (.ref b0), .val (.int ((2 : Int32) + (1 : Int32))), .val (.ref b1), .val (.int (2 : Int32)), .val (.int (3 : Int32)), .val (.int (2 : Int32)), .val (.int k2)]) own_d16_32 rfl rfl (pc' := 35) rfl ?_
              show OF _ _ _ _ _ _ _ T235 (mkF m 35 #[.val (.ref b0), .val (.int (3 : Int32)), .val (.ref b1), .val (.int (2 : Int32)), .val (.int (3 : Int32)), .val (.int (2 : Int32)), .val (.int k2)] [])
              refine o_iinc W235 (x := (2 : Int32)) (L' := #[.val (.ref b0), .val (.int (3 : Int32)), .val (.ref b1), .val (.int ((2 : Int32) + (1 : Int32))), .val (.int (3 : Int32)), .val (.int (2 : Int32)), .val (.int k2)]) own_d16_35 rfl rfl (pc' := 38) rfl ?_
              show OF _ _ _ _ _ _ _ T235 (mkF m 38 #[.val (.ref b0), .val (.int (3 : Int32)), .val (.ref b1), .val (.int (3 : Int32)), .val (.int (3 : Int32)), .val (.int (2 : Int32)), .val (.int k2)] [])
              refine o_iinc W235 (x := (2 : Int32)) (L' := #[.val (.ref b0), .val (.int (3 : Int32)), .val (.ref b1), .val (.int (3 : Int32)), .val (.int (3 : Int32)), .val (.int ((2 : Int32) + (1 : Int32))), .val (.int k2)]) own_d16_38 rfl rfl (pc' := 41) rfl ?_
              show OF _ _ _ _ _ _ _ T235 (mkF m 41 #[.val (.ref b0), .val (.int (3 : Int32)), .val (.ref b1), .val (.int (3 : Int32)), .val (.int (3 : Int32)), .val (.int (3 : Int32)), .val (.int k2)] [])
              refine o_goto W235 own_d16_41 (by decide) (pq := 3) (by decide) ?_
              refine o_iload W235 own_d16_3 (v := (3 : Int32)) rfl (pc' := 5) rfl ?_
              refine o_iload W235 own_d16_5 (v := (3 : Int32)) rfl (pc' := 7) rfl ?_
              refine o_icmp_ge W235 own_d16_7 (by decide) (pq := 44) (by decide) (pc' := 10) rfl (fun hc7 => ?_) (fun hc7 => ?_)
              · refine o_iload W235 own_d16_44 (v := (3 : Int32)) rfl (pc' := 46) rfl ?_
                refine o_retI W235 rfl own_d16_46 (by decide) (by decide) ?_
                exact ⟨_, rfl, KK_K235, ST_235, Or.inr (Or.inr (Or.inr (⟨rfl, by omega, A_b1_235⟩)))⟩
              · exact absurd hc7 (by decide)
            · refine o_iload W234 own_d16_23 (v := (2 : Int32)) rfl (pc' := 25) rfl ?_
              refine o_retI W234 rfl own_d16_25 (by decide) (by decide) ?_
              exact ⟨_, rfl, KK_K234, ST_234, Or.inr (Or.inr (Or.inl (⟨rfl, by omega⟩)))⟩
        · refine o_iload W233 own_d16_23 (v := (1 : Int32)) rfl (pc' := 25) rfl ?_
          refine o_retI W233 rfl own_d16_25 (by decide) (by decide) ?_
          exact ⟨_, rfl, KK_K233, ST_233, Or.inr (Or.inl (⟨rfl, by omega⟩))⟩
    · refine o_iload W0 own_d16_23 (v := (0 : Int32)) rfl (pc' := 25) rfl ?_
      refine o_retI W0 rfl own_d16_25 (by decide) (by decide) ?_
      exact ⟨_, rfl, Keep.refl _ _, ST, Or.inl (⟨rfl, by omega⟩)⟩
theorem own_ef21_3 (m : MethodId) (z0 : Int32) : entryFrame m #[(.int z0)] 1 = mkF m 0 #[.val (.int z0)] [] := by first | (simp [entryFrame, mkF, argsToLocals, Value.category]; done) | rfl
set_option maxRecDepth 65536 in
set_option maxHeartbeats 4000000 in
theorem rm21_3 (l : Launch) (Z : State) (a0 : Array Value) (hw : ∀ d ∈ tables_1, d.before a0 Z = true)  (h0 : Heap) (n0 : Nat) (Z0 : n0 ≤ h0.size) (cs : Int32) (fm : Value) (ST : OSt Z h0 cs fm) :
    OCon l Z (⟨"java/lang/StringUTF16", "newBytesFor", "(I)[B"⟩ : MethodName) jdk_52_method_2_code 1 (some (.array .byte)) [] ({ frames := 1, cells := 1, slots := 6, locals := 12 } : Room) #[(.int (3 : Int32))] h0 n0 (QA fun r h' => r = h0.size ∧ Keep h0 h' [] ∧ OSt Z h' cs fm ∧ OA Z h' r .byte [0, 0, 0, 0, 0, 0]) := by
  refine OCon.mk (plainFor_of_name own_pn2) Z0 ?_
  intro p e s m below meth cd s₁ W0
  refine OF.cast (own_ef21_3 m (3 : Int32)) ?_
  refine o_iloadN W0 own_d21_0 (v := (3 : Int32)) rfl (pc' := 1) rfl ?_
  refine o_callSI W0 (rm22 l Z a0 hw (3 : Int32) h0 n0 W0.le (by decide)) (ow hw 93 rfl) (ow hw 94 rfl) (ow hw 73 rfl) (ow hw 95 rfl) (by decide) (argsL := [(.int (3 : Int32))]) (S := []) (lenOf own_pd7 rfl) rfl rfl rfl (wt := 0) rfl (by decide) (by decide) (by decide) (by decide) (kk' := 0) rfl (nn' := 0) rfl own_d21_1 (pc' := 4) rfl ?_
  intro r236 T236 h236 W236 q236 z236
  obtain ⟨q236, rfl⟩ := q236
  obtain rfl : r236 = (6 : Int32) := q236
  refine o_newarray W236 (ty := .byte) (len := 6) (cap := 6) (ow hw 20 rfl) rfl rfl rfl own_d21_4 (pc' := 6) rfl rfl (by decide) (by decide) (by decide) (by decide) (kk' := 1) rfl (nn' := 6) rfl ?_
  intro T238 h238 a237 W238 E238 g_a237 A_a237
  have b_a237 : n0 ≤ a237 := by rw [g_a237]; exact W236.le
  have A_a237 : OA Z h238 a237 .byte [0, 0, 0, 0, 0, 0] := A_a237
  have ST_238 := ST.ext E238
  refine o_retA W238 (t := (.array .byte)) rfl rfl rfl rfl own_d21_6 (by decide) (by decide) ?_
  exact ⟨_, rfl, g_a237, (Keep.refl h0 []).ext E238, ST_238, A_a237⟩
theorem own_ef20_3 (m : MethodId) (z0 : Addr) (z1 : Int32) (z2 : Int32) : entryFrame m #[(.ref z0), (.int z1), (.int z2)] 5 = mkF m 0 #[.val (.ref z0), .val (.int z1), .val (.int z2), .unset, .unset] [] := by first | (simp [entryFrame, mkF, argsToLocals, Value.category]; done) | rfl
set_option maxRecDepth 65536 in
set_option maxHeartbeats 4000000 in
theorem rm20_3 (l : Launch) (Z : State) (a0 : Array Value) (hw : ∀ d ∈ tables_1, d.before a0 Z = true) (b0 : Addr) (h0 : Heap) (n0 : Nat) (Z0 : n0 ≤ h0.size) (cs : Int32) (fm : Value) (ST : OSt Z h0 cs fm) (k0 k1 k2 : Int32) (hk0 : 0 ≤ k0.toInt ∧ k0.toInt ≤ 65535) (hk1 : 0 ≤ k1.toInt ∧ k1.toInt ≤ 65535) (hk2 : 0 ≤ k2.toInt ∧ k2.toInt ≤ 65535) (A0 : OA Z h0 b0 .char [k0, k1, k2]) :
    OCon l Z (⟨"java/lang/StringUTF16", "toBytes", "([CII)[B"⟩ : MethodName) jdk_52_method_14_code 5 (some (.array .byte)) [] ({ frames := 2, cells := 1, slots := 6, locals := 24 } : Room) #[(.ref b0), (.int (0 : Int32)), (.int (3 : Int32))] h0 n0 (QA fun r h' => r = h0.size ∧ Keep h0 h' [] ∧ OSt Z h' cs fm ∧ OA Z h' r .byte [own_lo k0, own_hi k0, own_lo k1, own_hi k1, own_lo k2, own_hi k2]) := by
  refine OCon.mk (plainFor_of_name own_pn2) Z0 ?_
  intro p e s m below meth cd s₁ W0
  refine OF.cast (own_ef20_3 m b0 (0 : Int32) (3 : Int32)) ?_
  have c_0___Int32_ : (0 : Int32).toInt = 0 := rfl
  have c_1___Int32_ : (1 : Int32).toInt = 1 := rfl
  have c_2___Int32_ : (2 : Int32).toInt = 2 := rfl
  have c_3___Int32_ : (3 : Int32).toInt = 3 := rfl
  refine o_iloadN W0 own_d20_0 (v := (3 : Int32)) rfl (pc' := 1) rfl ?_
  refine o_callSA W0 (rm21_3 l Z a0 hw h0 n0 W0.le cs fm ST) (ow hw 90 rfl) (ow hw 91 rfl) (ow hw 73 rfl) (ow hw 92 rfl) (by decide) (argsL := [(.int (3 : Int32))]) (S := []) (lenOf own_pd8 rfl) rfl rfl rfl (wt := 0) rfl (by decide) (by decide) (by decide) (by decide) (kk' := 1) rfl (nn' := 6) rfl own_d20_1 (pc' := 4) rfl ?_
  intro r239 T239 h239 W239 q239 z239
  obtain ⟨gr, KB, ST_239, AB⟩ := q239
  have A0_239 := A0.keep KB nin0
  have ne_b0_r239 : b0 ≠ r239 := Nat.ne_of_lt (Nat.lt_of_lt_of_le A0.lt (Nat.le_of_eq gr.symm))
  have gb : n0 ≤ r239 := by rw [gr]; exact Z0
  have KK := KB
  refine o_astoreN W239 (L' := #[.val (.ref b0), .val (.int (0 : Int32)), .val (.int (3 : Int32)), .val (.ref r239), .unset]) own_d20_4 rfl rfl (pc' := 5) rfl ?_
  refine o_iconst W239 (v := (0 : Int32)) own_d20_5 rfl (pc' := 6) rfl ?_
  refine o_istore W239 (L' := #[.val (.ref b0), .val (.int (0 : Int32)), .val (.int (3 : Int32)), .val (.ref r239), .val (.int (0 : Int32))]) own_d20_6 rfl (pc' := 8) rfl ?_
  refine o_iload W239 own_d20_8 (v := (0 : Int32)) rfl (pc' := 10) rfl ?_
  refine o_iloadN W239 own_d20_10 (v := (3 : Int32)) rfl (pc' := 11) rfl ?_
  refine o_icmp_ge W239 own_d20_11 (by decide) (pq := 32) (by decide) (pc' := 14) rfl (fun hc11 => ?_) (fun hc11 => ?_)
  · exact absurd hc11 (by decide)
  · refine o_aloadN W239 own_d20_14 (v := (.ref r239)) rfl rfl (pc' := 15) rfl ?_
    refine o_iload W239 own_d20_15 (v := (0 : Int32)) rfl (pc' := 17) rfl ?_
    refine o_aloadN W239 own_d20_17 (v := (.ref b0)) rfl rfl (pc' := 18) rfl ?_
    refine o_iloadN W239 own_d20_18 (v := (0 : Int32)) rfl (pc' := 19) rfl ?_
    refine o_caload W239 A0_239 own_d20_19 (pc' := 20) rfl (i := 0) (v := k0) rfl rfl ?_
    refine o_callS W239 (rm23 l Z a0 hw r239 (0 : Int32) k0 h239 n0 W239.le cs fm ST_239 _ 0 AB gb rfl (by decide) (Nat.le_of_ble_eq_true rfl)) (ow hw 97 rfl) (ow hw 98 rfl) (ow hw 73 rfl) (ow hw 99 rfl) (by decide) (argsL := [(.ref r239), (.int (0 : Int32)), (.int k0)]) (S := []) (lenOf own_pd9 rfl) rfl rfl rfl (wt := 0) rfl (by decide) (by decide) (by decide) (by decide) (kk' := 1) rfl (nn' := 6) rfl own_d20_20 (pc' := 23) rfl ?_
    intro r240 T240 h240 W240 q240 z240
    obtain ⟨rfl, q240⟩ := q240
    show OF _ _ _ _ _ _ _ T240 (mkF m 23 #[.val (.ref b0), .val (.int (0 : Int32)), .val (.int (3 : Int32)), .val (.ref r239), .val (.int (0 : Int32))] [])
    obtain ⟨KP, ST_240, AB_240⟩ := q240
    have AB_240 : OA Z h240 r239 .byte [own_lo k0, own_hi k0, 0, 0, 0, 0] := AB_240
    have A0_240 := A0_239.keep1 KP ne_b0_r239
    have KK : Keep h0 h240 [] := KK.trans KP (fun x hx => Or.inr (by simp only [List.mem_singleton] at hx; rw [hx, gr]; exact Nat.le_refl _))
    refine o_iinc W240 (x := (0 : Int32)) (L' := #[.val (.ref b0), .val (.int ((0 : Int32) + (1 : Int32))), .val (.int (3 : Int32)), .val (.ref r239), .val (.int (0 : Int32))]) own_d20_23 rfl rfl (pc' := 26) rfl ?_
    show OF _ _ _ _ _ _ _ T240 (mkF m 26 #[.val (.ref b0), .val (.int (1 : Int32)), .val (.int (3 : Int32)), .val (.ref r239), .val (.int (0 : Int32))] [])
    refine o_iinc W240 (x := (0 : Int32)) (L' := #[.val (.ref b0), .val (.int (1 : Int32)), .val (.int (3 : Int32)), .val (.ref r239), .val (.int ((0 : Int32) + (1 : Int32)))]) own_d20_26 rfl rfl (pc' := 29) rfl ?_
    show OF _ _ _ _ _ _ _ T240 (mkF m 29 #[.val (.ref b0), .val (.int (1 : Int32)), .val (.int (3 : Int32)), .val (.ref r239), .val (.int (1 : Int32))] [])
    refine o_goto W240 own_d20_29 (by decide) (pq := 8) (by decide) ?_
    refine o_iload W240 own_d20_8 (v := (1 : Int32)) rfl (pc' := 10) rfl ?_
    refine o_iloadN W240 own_d20_10 (v := (3 : Int32)) rfl (pc' := 11) rfl ?_
    refine o_icmp_ge W240 own_d20_11 (by decide) (pq := 32) (by decide) (pc' := 14) rfl (fun hc11 => ?_) (fun hc11 => ?_)
    · exact absurd hc11 (by decide)
    · refine o_aloadN W240 own_d20_14 (v := (.ref r239)) rfl rfl (pc' := 15) rfl ?_
      refine o_iload W240 own_d20_15 (v := (1 : Int32)) rfl (pc' := 17) rfl ?_
      refine o_aloadN W240 own_d20_17 (v := (.ref b0)) rfl rfl (pc' := 18) rfl ?_
      refine o_iloadN W240 own_d20_18 (v := (1 : Int32)) rfl (pc' := 19) rfl ?_
      refine o_caload W240 A0_240 own_d20_19 (pc' := 20) rfl (i := 1) (v := k1) rfl rfl ?_
      refine o_callS W240 (rm23 l Z a0 hw r239 (1 : Int32) k1 h240 n0 W240.le cs fm ST_240 _ 1 AB_240 gb rfl (by decide) (Nat.le_of_ble_eq_true rfl)) (ow hw 97 rfl) (ow hw 98 rfl) (ow hw 73 rfl) (ow hw 99 rfl) (by decide) (argsL := [(.ref r239), (.int (1 : Int32)), (.int k1)]) (S := []) (lenOf own_pd9 rfl) rfl rfl rfl (wt := 0) rfl (by decide) (by decide) (by decide) (by decide) (kk' := 1) rfl (nn' := 6) rfl own_d20_20 (pc' := 23) rfl ?_
      intro r241 T241 h241 W241 q241 z241
      obtain ⟨rfl, q241⟩ := q241
      show OF _ _ _ _ _ _ _ T241 (mkF m 23 #[.val (.ref b0), .val (.int (1 : Int32)), .val (.int (3 : Int32)), .val (.ref r239), .val (.int (1 : Int32))] [])
      obtain ⟨KP, ST_241, AB_241⟩ := q241
      have AB_241 : OA Z h241 r239 .byte [own_lo k0, own_hi k0, own_lo k1, own_hi k1, 0, 0] := AB_241
      have A0_241 := A0_240.keep1 KP ne_b0_r239
      have KK : Keep h0 h241 [] := KK.trans KP (fun x hx => Or.inr (by simp only [List.mem_singleton] at hx; rw [hx, gr]; exact Nat.le_refl _))
      refine o_iinc W241 (x := (1 : Int32)) (L' := #[.val (.ref b0), .val (.int ((1 : Int32) + (1 : Int32))), .val (.int (3 : Int32)), .val (.ref r239), .val (.int (1 : Int32))]) own_d20_23 rfl rfl (pc' := 26) rfl ?_
      show OF _ _ _ _ _ _ _ T241 (mkF m 26 #[.val (.ref b0), .val (.int (2 : Int32)), .val (.int (3 : Int32)), .val (.ref r239), .val (.int (1 : Int32))] [])
      refine o_iinc W241 (x := (1 : Int32)) (L' := #[.val (.ref b0), .val (.int (2 : Int32)), .val (.int (3 : Int32)), .val (.ref r239), .val (.int ((1 : Int32) + (1 : Int32)))]) own_d20_26 rfl rfl (pc' := 29) rfl ?_
      show OF _ _ _ _ _ _ _ T241 (mkF m 29 #[.val (.ref b0), .val (.int (2 : Int32)), .val (.int (3 : Int32)), .val (.ref r239), .val (.int (2 : Int32))] [])
      refine o_goto W241 own_d20_29 (by decide) (pq := 8) (by decide) ?_
      refine o_iload W241 own_d20_8 (v := (2 : Int32)) rfl (pc' := 10) rfl ?_
      refine o_iloadN W241 own_d20_10 (v := (3 : Int32)) rfl (pc' := 11) rfl ?_
      refine o_icmp_ge W241 own_d20_11 (by decide) (pq := 32) (by decide) (pc' := 14) rfl (fun hc11 => ?_) (fun hc11 => ?_)
      · exact absurd hc11 (by decide)
      · refine o_aloadN W241 own_d20_14 (v := (.ref r239)) rfl rfl (pc' := 15) rfl ?_
        refine o_iload W241 own_d20_15 (v := (2 : Int32)) rfl (pc' := 17) rfl ?_
        refine o_aloadN W241 own_d20_17 (v := (.ref b0)) rfl rfl (pc' := 18) rfl ?_
        refine o_iloadN W241 own_d20_18 (v := (2 : Int32)) rfl (pc' := 19) rfl ?_
        refine o_caload W241 A0_241 own_d20_19 (pc' := 20) rfl (i := 2) (v := k2) rfl rfl ?_
        refine o_callS W241 (rm23 l Z a0 hw r239 (2 : Int32) k2 h241 n0 W241.le cs fm ST_241 _ 2 AB_241 gb rfl (by decide) (Nat.le_of_ble_eq_true rfl)) (ow hw 97 rfl) (ow hw 98 rfl) (ow hw 73 rfl) (ow hw 99 rfl) (by decide) (argsL := [(.ref r239), (.int (2 : Int32)), (.int k2)]) (S := []) (lenOf own_pd9 rfl) rfl rfl rfl (wt := 0) rfl (by decide) (by decide) (by decide) (by decide) (kk' := 1) rfl (nn' := 6) rfl own_d20_20 (pc' := 23) rfl ?_
        intro r242 T242 h242 W242 q242 z242
        obtain ⟨rfl, q242⟩ := q242
        show OF _ _ _ _ _ _ _ T242 (mkF m 23 #[.val (.ref b0), .val (.int (2 : Int32)), .val (.int (3 : Int32)), .val (.ref r239), .val (.int (2 : Int32))] [])
        obtain ⟨KP, ST_242, AB_242⟩ := q242
        have AB_242 : OA Z h242 r239 .byte [own_lo k0, own_hi k0, own_lo k1, own_hi k1, own_lo k2, own_hi k2] := AB_242
        have A0_242 := A0_241.keep1 KP ne_b0_r239
        have KK : Keep h0 h242 [] := KK.trans KP (fun x hx => Or.inr (by simp only [List.mem_singleton] at hx; rw [hx, gr]; exact Nat.le_refl _))
        refine o_iinc W242 (x := (2 : Int32)) (L' := #[.val (.ref b0), .val (.int ((2 : Int32) + (1 : Int32))), .val (.int (3 : Int32)), .val (.ref r239), .val (.int (2 : Int32))]) own_d20_23 rfl rfl (pc' := 26) rfl ?_
        show OF _ _ _ _ _ _ _ T242 (mkF m 26 #[.val (.ref b0), .val (.int (3 : Int32)), .val (.int (3 : Int32)), .val (.ref r239), .val (.int (2 : Int32))] [])
        refine o_iinc W242 (x := (2 : Int32)) (L' := #[.val (.ref b0), .val (.int (3 : Int32)), .val (.int (3 : Int32)), .val (.ref r239), .val (.int ((2 : Int32) + (1 : Int32)))]) own_d20_26 rfl rfl (pc' := 29) rfl ?_
        show OF _ _ _ _ _ _ _ T242 (mkF m 29 #[.val (.ref b0), .val (.int (3 : Int32)), .val (.int (3 : Int32)), .val (.ref r239), .val (.int (3 : Int32))] [])
        refine o_goto W242 own_d20_29 (by decide) (pq := 8) (by decide) ?_
        refine o_iload W242 own_d20_8 (v := (3 : Int32)) rfl (pc' := 10) rfl ?_
        refine o_iloadN W242 own_d20_10 (v := (3 : Int32)) rfl (pc' := 11) rfl ?_
        refine o_icmp_ge W242 own_d20_11 (by decide) (pq := 32) (by decide) (pc' := 14) rfl (fun hc11 => ?_) (fun hc11 => ?_)
        · refine o_aloadN W242 own_d20_32 (v := (.ref r239)) rfl rfl (pc' := 33) rfl ?_
          refine o_retA W242 (t := (.array .byte)) rfl rfl rfl rfl own_d20_33 (by decide) (by decide) ?_
          exact ⟨_, rfl, gr, KK, ST_242, AB_242⟩
        · exact absurd hc11 (by decide)
theorem own_ef15_3 (m : MethodId) (z0 : Addr) (z1 : Int32) (z2 : Int32) : entryFrame m #[(.ref z0), (.int z1), (.int z2)] 6 = mkF m 0 #[.val (.ref z0), .val (.int z1), .val (.int z2), .unset, .unset, .unset] [] := by first | (simp [entryFrame, mkF, argsToLocals, Value.category]; done) | rfl
set_option maxRecDepth 65536 in
set_option maxHeartbeats 4000000 in
theorem rm15_3 (l : Launch) (Z : State) (a0 : Array Value) (hw : ∀ d ∈ tables_1, d.before a0 Z = true) (b0 : Addr) (h0 : Heap) (n0 : Nat) (Z0 : n0 ≤ h0.size) (cs : Int32) (fm : Value) (ST : OSt Z h0 cs fm) (k0 k1 k2 : Int32) (hk0 : 0 ≤ k0.toInt ∧ k0.toInt ≤ 65535) (hk1 : 0 ≤ k1.toInt ∧ k1.toInt ≤ 65535) (hk2 : 0 ≤ k2.toInt ∧ k2.toInt ≤ 65535) (A0 : OA Z h0 b0 .char [k0, k1, k2]) :
    OCon l Z (⟨"java/lang/StringUTF16", "compress", "([CII)[B"⟩ : MethodName) jdk_52_method_16_code 6 (some (.array .byte)) [] ({ frames := 3, cells := 2, slots := 9, locals := 40 } : Room) #[(.ref b0), (.int (0 : Int32)), (.int (3 : Int32))] h0 n0 (QA fun r h' => h0.size ≤ r ∧ Keep h0 h' [] ∧ OSt Z h' cs fm ∧ (((k0.toInt ≤ 255 ∧ k1.toInt ≤ 255 ∧ k2.toInt ≤ 255) ∧ OA Z h' r .byte [own_b k0, own_b k1, own_b k2]) ∨ OA Z h' r .byte [own_lo k0, own_hi k0, own_lo k1, own_hi k1, own_lo k2, own_hi k2])) := by
  refine OCon.mk (plainFor_of_name own_pn2) Z0 ?_
  intro p e s m below meth cd s₁ W0
  refine OF.cast (own_ef15_3 m b0 (0 : Int32) (3 : Int32)) ?_
  have c_0___Int32_ : (0 : Int32).toInt = 0 := rfl
  have c_1___Int32_ : (1 : Int32).toInt = 1 := rfl
  have c_2___Int32_ : (2 : Int32).toInt = 2 := rfl
  have c_255___Int32_ : (255 : Int32).toInt = 255 := rfl
  have c_3___Int32_ : (3 : Int32).toInt = 3 := rfl
  refine o_iloadN W0 own_d15_0 (v := (3 : Int32)) rfl (pc' := 1) rfl ?_
  refine o_newarray W0 (ty := .byte) (len := 3) (cap := 3) (ow hw 20 rfl) rfl rfl rfl own_d15_1 (pc' := 3) rfl rfl (by decide) (by decide) (by decide) (by decide) (kk' := 1) rfl (nn' := 3) rfl ?_
  intro T244 h244 a243 W244 E244 g_a243 A_a243
  have b_a243 : n0 ≤ a243 := by rw [g_a243]; exact W0.le
  have ne_b0_a243 : b0 ≠ a243 := Nat.ne_of_lt (Nat.lt_of_lt_of_le A0.lt (Nat.le_of_eq g_a243.symm))
  have A_b0_244 := A0.ext E244
  have A_a243 : OA Z h244 a243 .byte [0, 0, 0] := A_a243
  have ST_244 := ST.ext E244
  have EE := E244
  refine o_astoreN W244 (L' := #[.val (.ref b0), .val (.int (0 : Int32)), .val (.int (3 : Int32)), .val (.ref a243), .unset, .unset]) own_d15_3 rfl rfl (pc' := 4) rfl ?_
  refine o_aloadN W244 own_d15_4 (v := (.ref b0)) rfl rfl (pc' := 5) rfl ?_
  refine o_iloadN W244 own_d15_5 (v := (0 : Int32)) rfl (pc' := 6) rfl ?_
  refine o_aloadN W244 own_d15_6 (v := (.ref a243)) rfl rfl (pc' := 7) rfl ?_
  refine o_iconst W244 (v := (0 : Int32)) own_d15_7 rfl (pc' := 8) rfl ?_
  refine o_iloadN W244 own_d15_8 (v := (3 : Int32)) rfl (pc' := 9) rfl ?_
  refine o_callSI W244 (rm16_3 l Z a0 hw b0 a243 h244 n0 W244.le cs fm ST_244 k0 k1 k2 hk0 hk1 hk2 A_b0_244 A_a243 b_a243 ne_b0_a243) (ow hw 75 rfl) (ow hw 76 rfl) (ow hw 73 rfl) (ow hw 77 rfl) (by decide) (argsL := [(.ref b0), (.int (0 : Int32)), (.ref a243), (.int (0 : Int32)), (.int (3 : Int32))]) (S := []) (lenOf own_pd10 rfl) rfl rfl rfl (wt := 0) rfl (by decide) (by decide) (by decide) (by decide) (kk' := 1) rfl (nn' := 3) rfl own_d15_9 (pc' := 12) rfl ?_
  intro r245 T245 h245 W245 q245 z245
  obtain ⟨KC, ST_245, q245⟩ := q245
  have A0_245 := A_b0_244.keep1 KC ne_b0_a243
  have KK : Keep h0 h245 [] := ((Keep.refl h0 []).ext EE).trans KC (fun x hx => Or.inr (by simp only [List.mem_singleton] at hx; rw [hx, g_a243]; exact Nat.le_refl _))
  rcases q245 with ⟨rfl, hj⟩ | ⟨rfl, hj⟩ | ⟨rfl, hj⟩ | ⟨rfl, hall, AL⟩
  · refine o_istore W245 (L' := #[.val (.ref b0), .val (.int (0 : Int32)), .val (.int (3 : Int32)), .val (.ref a243), .val (.int (0 : Int32)), .unset]) own_d15_12 rfl (pc' := 14) rfl ?_
    refine o_iload W245 own_d15_14 (v := (0 : Int32)) rfl (pc' := 16) rfl ?_
    refine o_iloadN W245 own_d15_16 (v := (3 : Int32)) rfl (pc' := 17) rfl ?_
    refine o_icmp_eq W245 own_d15_17 (by decide) (pq := 57) (by decide) (pc' := 20) rfl (fun hc17 => ?_) (fun hc17 => ?_)
    · exact absurd hc17 (by decide)
    · refine o_aloadN W245 own_d15_20 (v := (.ref b0)) rfl rfl (pc' := 21) rfl ?_
      refine o_iloadN W245 own_d15_21 (v := (0 : Int32)) rfl (pc' := 22) rfl ?_
      refine o_iloadN W245 own_d15_22 (v := (3 : Int32)) rfl (pc' := 23) rfl ?_
      have KK0 := KK
      refine o_callSA W245 (rm20_3 l Z a0 hw b0 h245 n0 W245.le cs fm ST_245 k0 k1 k2 hk0 hk1 hk2 A0_245) (ow hw 87 rfl) (ow hw 88 rfl) (ow hw 73 rfl) (ow hw 89 rfl) (by decide) (argsL := [(.ref b0), (.int (0 : Int32)), (.int (3 : Int32))]) (S := []) (lenOf own_pd11 rfl) rfl rfl rfl (wt := 0) rfl (by decide) (by decide) (by decide) (by decide) (kk' := 2) rfl (nn' := 9) rfl own_d15_23 (pc' := 26) rfl ?_
      intro r246 T246 h246 W246 q246 z246
      obtain ⟨gu, KU, ST_246, AU⟩ := q246
      have KK := KK.trans KU (fun x hx => nomatch hx)
      refine o_astore W246 (L' := #[.val (.ref b0), .val (.int (0 : Int32)), .val (.int (3 : Int32)), .val (.ref a243), .val (.int (0 : Int32)), .val (.ref r246)]) own_d15_26 rfl rfl (pc' := 28) rfl ?_
      refine o_aload W246 own_d15_28 (v := (.ref r246)) rfl rfl (pc' := 30) rfl ?_
      refine o_iload W246 own_d15_30 (v := (0 : Int32)) rfl (pc' := 32) rfl ?_
      refine o_callSI W246 (rm24 l Z a0 hw r246 (0 : Int32) h246 n0 W246.le cs fm ST_246 _ 0 _ _ AU rfl (by decide) rfl rfl) (ow hw 103 rfl) (ow hw 104 rfl) (ow hw 73 rfl) (ow hw 105 rfl) (by decide) (argsL := [(.ref r246), (.int (0 : Int32))]) (S := []) (lenOf own_pd12 rfl) rfl rfl rfl (wt := 0) rfl (by decide) (by decide) (by decide) (by decide) (kk' := 2) rfl (nn' := 9) rfl own_d15_32 (pc' := 35) rfl ?_
      intro r247 T247 h247 W247 q247 z247
      obtain ⟨q247, rfl⟩ := q247
      obtain rfl : r247 = k0 := q247.trans (own_gcv k0 hk0.1 hk0.2)
      refine o_sipush W247 (v := (255 : Int32)) own_d15_35 rfl (pc' := 38) rfl ?_
      have cm1 : (-1 : Int32).toInt = -1 := rfl
      have ci0 : (0 : Int32).toInt = 0 := rfl
      have ci1 : (1 : Int32).toInt = 1 := rfl
      have ci2 : (2 : Int32).toInt = 2 := rfl
      have ci3 : (3 : Int32).toInt = 3 := rfl
      have ci4 : (4 : Int32).toInt = 4 := rfl
      have c255 : (255 : Int32).toInt = 255 := rfl
      refine o_icmp_gt W247 own_d15_38 (by decide) (pq := 54) (by decide) (pc' := 41) rfl (fun hc38 => ?_) (fun hc38 => ?_)
      · refine o_aload W247 own_d15_54 (v := (.ref r246)) rfl rfl (pc' := 56) rfl ?_
        refine o_retA W247 (t := (.array .byte)) rfl rfl rfl rfl own_d15_56 (by decide) (by decide) ?_
        exact ⟨_, rfl, by rw [gu]; exact KK0.1, KK, ST_246, Or.inr AU⟩
      · exfalso; omega
  · refine o_istore W245 (L' := #[.val (.ref b0), .val (.int (0 : Int32)), .val (.int (3 : Int32)), .val (.ref a243), .val (.int (1 : Int32)), .unset]) own_d15_12 rfl (pc' := 14) rfl ?_
    refine o_iload W245 own_d15_14 (v := (1 : Int32)) rfl (pc' := 16) rfl ?_
    refine o_iloadN W245 own_d15_16 (v := (3 : Int32)) rfl (pc' := 17) rfl ?_
    refine o_icmp_eq W245 own_d15_17 (by decide) (pq := 57) (by decide) (pc' := 20) rfl (fun hc17 => ?_) (fun hc17 => ?_)
    · exact absurd hc17 (by decide)
    · refine o_aloadN W245 own_d15_20 (v := (.ref b0)) rfl rfl (pc' := 21) rfl ?_
      refine o_iloadN W245 own_d15_21 (v := (0 : Int32)) rfl (pc' := 22) rfl ?_
      refine o_iloadN W245 own_d15_22 (v := (3 : Int32)) rfl (pc' := 23) rfl ?_
      have KK0 := KK
      refine o_callSA W245 (rm20_3 l Z a0 hw b0 h245 n0 W245.le cs fm ST_245 k0 k1 k2 hk0 hk1 hk2 A0_245) (ow hw 87 rfl) (ow hw 88 rfl) (ow hw 73 rfl) (ow hw 89 rfl) (by decide) (argsL := [(.ref b0), (.int (0 : Int32)), (.int (3 : Int32))]) (S := []) (lenOf own_pd11 rfl) rfl rfl rfl (wt := 0) rfl (by decide) (by decide) (by decide) (by decide) (kk' := 2) rfl (nn' := 9) rfl own_d15_23 (pc' := 26) rfl ?_
      intro r248 T248 h248 W248 q248 z248
      obtain ⟨gu, KU, ST_248, AU⟩ := q248
      have KK := KK.trans KU (fun x hx => nomatch hx)
      refine o_astore W248 (L' := #[.val (.ref b0), .val (.int (0 : Int32)), .val (.int (3 : Int32)), .val (.ref a243), .val (.int (1 : Int32)), .val (.ref r248)]) own_d15_26 rfl rfl (pc' := 28) rfl ?_
      refine o_aload W248 own_d15_28 (v := (.ref r248)) rfl rfl (pc' := 30) rfl ?_
      refine o_iload W248 own_d15_30 (v := (1 : Int32)) rfl (pc' := 32) rfl ?_
      refine o_callSI W248 (rm24 l Z a0 hw r248 (1 : Int32) h248 n0 W248.le cs fm ST_248 _ 1 _ _ AU rfl (by decide) rfl rfl) (ow hw 103 rfl) (ow hw 104 rfl) (ow hw 73 rfl) (ow hw 105 rfl) (by decide) (argsL := [(.ref r248), (.int (1 : Int32))]) (S := []) (lenOf own_pd12 rfl) rfl rfl rfl (wt := 0) rfl (by decide) (by decide) (by decide) (by decide) (kk' := 2) rfl (nn' := 9) rfl own_d15_32 (pc' := 35) rfl ?_
      intro r249 T249 h249 W249 q249 z249
      obtain ⟨q249, rfl⟩ := q249
      obtain rfl : r249 = k1 := q249.trans (own_gcv k1 hk1.1 hk1.2)
      refine o_sipush W249 (v := (255 : Int32)) own_d15_35 rfl (pc' := 38) rfl ?_
      have cm1 : (-1 : Int32).toInt = -1 := rfl
      have ci0 : (0 : Int32).toInt = 0 := rfl
      have ci1 : (1 : Int32).toInt = 1 := rfl
      have ci2 : (2 : Int32).toInt = 2 := rfl
      have ci3 : (3 : Int32).toInt = 3 := rfl
      have ci4 : (4 : Int32).toInt = 4 := rfl
      have c255 : (255 : Int32).toInt = 255 := rfl
      refine o_icmp_gt W249 own_d15_38 (by decide) (pq := 54) (by decide) (pc' := 41) rfl (fun hc38 => ?_) (fun hc38 => ?_)
      · refine o_aload W249 own_d15_54 (v := (.ref r248)) rfl rfl (pc' := 56) rfl ?_
        refine o_retA W249 (t := (.array .byte)) rfl rfl rfl rfl own_d15_56 (by decide) (by decide) ?_
        exact ⟨_, rfl, by rw [gu]; exact KK0.1, KK, ST_248, Or.inr AU⟩
      · exfalso; omega
  · refine o_istore W245 (L' := #[.val (.ref b0), .val (.int (0 : Int32)), .val (.int (3 : Int32)), .val (.ref a243), .val (.int (2 : Int32)), .unset]) own_d15_12 rfl (pc' := 14) rfl ?_
    refine o_iload W245 own_d15_14 (v := (2 : Int32)) rfl (pc' := 16) rfl ?_
    refine o_iloadN W245 own_d15_16 (v := (3 : Int32)) rfl (pc' := 17) rfl ?_
    refine o_icmp_eq W245 own_d15_17 (by decide) (pq := 57) (by decide) (pc' := 20) rfl (fun hc17 => ?_) (fun hc17 => ?_)
    · exact absurd hc17 (by decide)
    · refine o_aloadN W245 own_d15_20 (v := (.ref b0)) rfl rfl (pc' := 21) rfl ?_
      refine o_iloadN W245 own_d15_21 (v := (0 : Int32)) rfl (pc' := 22) rfl ?_
      refine o_iloadN W245 own_d15_22 (v := (3 : Int32)) rfl (pc' := 23) rfl ?_
      have KK0 := KK
      refine o_callSA W245 (rm20_3 l Z a0 hw b0 h245 n0 W245.le cs fm ST_245 k0 k1 k2 hk0 hk1 hk2 A0_245) (ow hw 87 rfl) (ow hw 88 rfl) (ow hw 73 rfl) (ow hw 89 rfl) (by decide) (argsL := [(.ref b0), (.int (0 : Int32)), (.int (3 : Int32))]) (S := []) (lenOf own_pd11 rfl) rfl rfl rfl (wt := 0) rfl (by decide) (by decide) (by decide) (by decide) (kk' := 2) rfl (nn' := 9) rfl own_d15_23 (pc' := 26) rfl ?_
      intro r250 T250 h250 W250 q250 z250
      obtain ⟨gu, KU, ST_250, AU⟩ := q250
      have KK := KK.trans KU (fun x hx => nomatch hx)
      refine o_astore W250 (L' := #[.val (.ref b0), .val (.int (0 : Int32)), .val (.int (3 : Int32)), .val (.ref a243), .val (.int (2 : Int32)), .val (.ref r250)]) own_d15_26 rfl rfl (pc' := 28) rfl ?_
      refine o_aload W250 own_d15_28 (v := (.ref r250)) rfl rfl (pc' := 30) rfl ?_
      refine o_iload W250 own_d15_30 (v := (2 : Int32)) rfl (pc' := 32) rfl ?_
      refine o_callSI W250 (rm24 l Z a0 hw r250 (2 : Int32) h250 n0 W250.le cs fm ST_250 _ 2 _ _ AU rfl (by decide) rfl rfl) (ow hw 103 rfl) (ow hw 104 rfl) (ow hw 73 rfl) (ow hw 105 rfl) (by decide) (argsL := [(.ref r250), (.int (2 : Int32))]) (S := []) (lenOf own_pd12 rfl) rfl rfl rfl (wt := 0) rfl (by decide) (by decide) (by decide) (by decide) (kk' := 2) rfl (nn' := 9) rfl own_d15_32 (pc' := 35) rfl ?_
      intro r251 T251 h251 W251 q251 z251
      obtain ⟨q251, rfl⟩ := q251
      obtain rfl : r251 = k2 := q251.trans (own_gcv k2 hk2.1 hk2.2)
      refine o_sipush W251 (v := (255 : Int32)) own_d15_35 rfl (pc' := 38) rfl ?_
      have cm1 : (-1 : Int32).toInt = -1 := rfl
      have ci0 : (0 : Int32).toInt = 0 := rfl
      have ci1 : (1 : Int32).toInt = 1 := rfl
      have ci2 : (2 : Int32).toInt = 2 := rfl
      have ci3 : (3 : Int32).toInt = 3 := rfl
      have ci4 : (4 : Int32).toInt = 4 := rfl
      have c255 : (255 : Int32).toInt = 255 := rfl
      refine o_icmp_gt W251 own_d15_38 (by decide) (pq := 54) (by decide) (pc' := 41) rfl (fun hc38 => ?_) (fun hc38 => ?_)
      · refine o_aload W251 own_d15_54 (v := (.ref r250)) rfl rfl (pc' := 56) rfl ?_
        refine o_retA W251 (t := (.array .byte)) rfl rfl rfl rfl own_d15_56 (by decide) (by decide) ?_
        exact ⟨_, rfl, by rw [gu]; exact KK0.1, KK, ST_250, Or.inr AU⟩
      · exfalso; omega
  · refine o_istore W245 (L' := #[.val (.ref b0), .val (.int (0 : Int32)), .val (.int (3 : Int32)), .val (.ref a243), .val (.int (3 : Int32)), .unset]) own_d15_12 rfl (pc' := 14) rfl ?_
    refine o_iload W245 own_d15_14 (v := (3 : Int32)) rfl (pc' := 16) rfl ?_
    refine o_iloadN W245 own_d15_16 (v := (3 : Int32)) rfl (pc' := 17) rfl ?_
    refine o_icmp_eq W245 own_d15_17 (by decide) (pq := 57) (by decide) (pc' := 20) rfl (fun hc17 => ?_) (fun hc17 => ?_)
    · refine o_aloadN W245 own_d15_57 (v := (.ref a243)) rfl rfl (pc' := 58) rfl ?_
      refine o_retA W245 (t := (.array .byte)) rfl rfl rfl rfl own_d15_58 (by decide) (by decide) ?_
      exact ⟨_, rfl, Nat.le_of_eq g_a243.symm, KK, ST_245, Or.inl ⟨hall, AL⟩⟩
    · exact absurd hc17 (by decide)
theorem own_ef17_3L (m : MethodId) (z0 : Addr) (z1 : Int32) : entryFrame m #[(.ref z0), (.int z1)] 2 = mkF m 0 #[.val (.ref z0), .val (.int z1)] [] := by first | (simp [entryFrame, mkF, argsToLocals, Value.category]; done) | rfl
set_option maxRecDepth 65536 in
set_option maxHeartbeats 4000000 in
theorem rm17_3L (l : Launch) (Z : State) (a0 : Array Value) (hw : ∀ d ∈ tables_1, d.before a0 Z = true) (b1 : Addr) (h0 : Heap) (n0 : Nat) (Z0 : n0 ≤ h0.size) (k0 k1 k2 : Int32) (A1 : OA Z h0 b1 .byte [own_b k0, own_b k1, own_b k2]) :
    OCon l Z (⟨"java/lang/StringUTF16", "coderFromArrayLen", "([BI)B"⟩ : MethodName) jdk_52_method_15_code 2 (some .byte) [] ({ frames := 0, cells := 0, slots := 0, locals := 0 } : Room) #[(.ref b1), (.int (3 : Int32))] h0 n0 (QI fun r h' => r = 0 ∧ h0 = h') := by
  refine OCon.mk (plainFor_of_name own_pn2) Z0 ?_
  intro p e s m below meth cd s₁ W0
  refine OF.cast (own_ef17_3L m b1 (3 : Int32)) ?_
  refine o_iloadN W0 own_d17_0 (v := (3 : Int32)) rfl (pc' := 1) rfl ?_
  refine o_aloadN W0 own_d17_1 (v := (.ref b1)) rfl rfl (pc' := 2) rfl ?_
  refine o_arraylength W0 A1 own_d17_2 (pc' := 3) rfl ?_
  intro v252 hv252
  obtain rfl : v252 = (3 : Int32) := o_eq (y := (3 : Int32)) hv252
  refine o_isub W0 own_d17_3 (pc' := 4) rfl ?_
  show OF _ _ _ _ _ _ _ s₁ (mkF m 4 #[.val (.ref b1), .val (.int (3 : Int32))] [(.int (0 : Int32))])
  refine o_bipush W0 (v := (31 : Int32)) own_d17_4 rfl (pc' := 6) rfl ?_
  refine o_iushr W0 own_d17_6 (pc' := 7) rfl ?_
  refine o_i2b W0 own_d17_7 (pc' := 8) rfl ?_
  refine o_retN W0 (t := .byte) rfl (by simp) own_d17_8 (by decide) (by decide) ?_
  exact ⟨0, rfl, rfl, rfl⟩
theorem own_ef17_3U (m : MethodId) (z0 : Addr) (z1 : Int32) : entryFrame m #[(.ref z0), (.int z1)] 2 = mkF m 0 #[.val (.ref z0), .val (.int z1)] [] := by first | (simp [entryFrame, mkF, argsToLocals, Value.category]; done) | rfl
set_option maxRecDepth 65536 in
set_option maxHeartbeats 4000000 in
theorem rm17_3U (l : Launch) (Z : State) (a0 : Array Value) (hw : ∀ d ∈ tables_1, d.before a0 Z = true) (b1 : Addr) (h0 : Heap) (n0 : Nat) (Z0 : n0 ≤ h0.size) (k0 k1 k2 : Int32) (A1 : OA Z h0 b1 .byte [own_lo k0, own_hi k0, own_lo k1, own_hi k1, own_lo k2, own_hi k2]) :
    OCon l Z (⟨"java/lang/StringUTF16", "coderFromArrayLen", "([BI)B"⟩ : MethodName) jdk_52_method_15_code 2 (some .byte) [] ({ frames := 0, cells := 0, slots := 0, locals := 0 } : Room) #[(.ref b1), (.int (3 : Int32))] h0 n0 (QI fun r h' => r = 1 ∧ h0 = h') := by
  refine OCon.mk (plainFor_of_name own_pn2) Z0 ?_
  intro p e s m below meth cd s₁ W0
  refine OF.cast (own_ef17_3U m b1 (3 : Int32)) ?_
  refine o_iloadN W0 own_d17_0 (v := (3 : Int32)) rfl (pc' := 1) rfl ?_
  refine o_aloadN W0 own_d17_1 (v := (.ref b1)) rfl rfl (pc' := 2) rfl ?_
  refine o_arraylength W0 A1 own_d17_2 (pc' := 3) rfl ?_
  intro v253 hv253
  obtain rfl : v253 = (6 : Int32) := o_eq (y := (6 : Int32)) hv253
  refine o_isub W0 own_d17_3 (pc' := 4) rfl ?_
  show OF _ _ _ _ _ _ _ s₁ (mkF m 4 #[.val (.ref b1), .val (.int (3 : Int32))] [(.int (-3 : Int32))])
  refine o_bipush W0 (v := (31 : Int32)) own_d17_4 rfl (pc' := 6) rfl ?_
  refine o_iushr W0 own_d17_6 (pc' := 7) rfl ?_
  refine o_i2b W0 own_d17_7 (pc' := 8) rfl ?_
  refine o_retN W0 (t := .byte) rfl (by simp) own_d17_8 (by decide) (by decide) ?_
  exact ⟨1, rfl, rfl, rfl⟩
theorem own_ef3_3 (m : MethodId) (z0 : Addr) (z1 : Addr) (z2 : Int32) (z3 : Int32) : entryFrame m #[(.ref z0), (.ref z1), (.int z2), (.int z3), .null] 6 = mkF m 0 #[.val (.ref z0), .val (.ref z1), .val (.int z2), .val (.int z3), .val .null, .unset] [] := by first | (simp [entryFrame, mkF, argsToLocals, Value.category]; done) | rfl
set_option maxRecDepth 65536 in
set_option maxHeartbeats 4000000 in
theorem rm3_3 (l : Launch) (Z : State) (a0 : Array Value) (hw : ∀ d ∈ tables_1, d.before a0 Z = true) (b0 b1 : Addr) (h0 : Heap) (n0 : Nat) (Z0 : n0 ≤ h0.size) (cs : Int32) (fm : Value) (ST : OSt Z h0 cs fm) (hcs : ¬ cs.toInt = 0) (k0 k1 k2 : Int32) (hk0 : 0 ≤ k0.toInt ∧ k0.toInt ≤ 65535) (hk1 : 0 ≤ k1.toInt ∧ k1.toInt ≤ 65535) (hk2 : 0 ≤ k2.toInt ∧ k2.toInt ≤ 65535) (A1 : OA Z h0 b1 .char [k0, k1, k2]) (E0 : Exa Z h0 b0 "java/lang/String") (Fv : Fld Z h0 b0 "java/lang/String" "value" "[B" .null) (Fc : Fld Z h0 b0 "java/lang/String" "coder" "B" (.int (0 : Int32))) (g0 : n0 ≤ b0) :
    OCon l Z (⟨"java/lang/String", "<init>", "([CIILjava/lang/Void;)V"⟩ : MethodName) jdk_42_method_149_code 6 none [] ({ frames := 4, cells := 2, slots := 9, locals := 57 } : Room) #[(.ref b0), (.ref b1), (.int (0 : Int32)), (.int (3 : Int32)), .null] h0 n0 (QV fun h' => Exa Z h' b0 "java/lang/String" ∧ Keep h0 h' [b0] ∧ OSt Z h' cs fm ∧ ∃ r, Fld Z h' b0 "java/lang/String" "value" "[B" (.ref r) ∧ (((k0.toInt ≤ 255 ∧ k1.toInt ≤ 255 ∧ k2.toInt ≤ 255) ∧ Fld Z h' b0 "java/lang/String" "coder" "B" (.int 0) ∧ OA Z h' r .byte [own_b k0, own_b k1, own_b k2]) ∨ (Fld Z h' b0 "java/lang/String" "coder" "B" (.int 1) ∧ OA Z h' r .byte [own_lo k0, own_hi k0, own_lo k1, own_hi k1, own_lo k2, own_hi k2]))) := by
  refine OCon.mk (plainFor_of_name own_pn4) Z0 ?_
  intro p e s m below meth cd s₁ W0
  refine OF.cast (own_ef3_3 m b0 b1 (0 : Int32) (3 : Int32)) ?_
  have c_3___Int32_ : (3 : Int32).toInt = 3 := rfl
  refine o_aloadN W0 own_d3_0 (v := (.ref b0)) rfl rfl (pc' := 1) rfl ?_
  refine o_initO W0 (ow hw 16 rfl) (ow hw 17 rfl) (ow hw 18 rfl) rfl (wt := 0) rfl (by decide) (by decide) own_d3_1 (pc' := 4) rfl ?_
  intro T254 W254
  refine o_iloadN W254 own_d3_4 (v := (3 : Int32)) rfl (pc' := 5) rfl ?_
  refine o_if_ne W254 own_d3_5 (by decide) (pq := 27) (by decide) (pc' := 8) rfl (fun hc5 => ?_) (fun hc5 => ?_)
  · refine o_getS W254 (ow hw 46 rfl) ST.1 own_d3_27 (pc' := 30) rfl ?_
    intro T255 W255
    refine o_if_eq W255 own_d3_30 (by decide) (pq := 58) (by decide) (pc' := 33) rfl (fun hc30 => ?_) (fun hc30 => ?_)
    · exact absurd hc30 hcs
    · refine o_aloadN W255 own_d3_33 (v := (.ref b1)) rfl rfl (pc' := 34) rfl ?_
      refine o_iloadN W255 own_d3_34 (v := (0 : Int32)) rfl (pc' := 35) rfl ?_
      refine o_iloadN W255 own_d3_35 (v := (3 : Int32)) rfl (pc' := 36) rfl ?_
      refine o_callSA W255 (rm15_3 l Z a0 hw b1 h0 n0 W255.le cs fm ST k0 k1 k2 hk0 hk1 hk2 A1) (ow hw 71 rfl) (ow hw 72 rfl) (ow hw 73 rfl) (ow hw 74 rfl) (by decide) (argsL := [(.ref b1), (.int (0 : Int32)), (.int (3 : Int32))]) (S := []) (lenOf own_pd11 rfl) rfl rfl rfl (wt := 0) rfl (by decide) (by decide) (by decide) (by decide) (kk' := 2) rfl (nn' := 9) rfl own_d3_36 (pc' := 39) rfl ?_
      intro r256 T256 h256 W256 q256 z256
      obtain ⟨gr, KB, ST_256, q256⟩ := q256
      have E_256 := Exa.keep E0 KB
      have Fv_256 := Fld.keep Fv KB nin0
      have Fc_256 := Fld.keep Fc KB nin0
      have KI_256 : Keep h0 h256 [b0] := (Keep.refl h0 [b0]).trans KB (fun x hx => nomatch hx)
      have ne_r256_b0 : r256 ≠ b0 := (Nat.ne_of_lt (Nat.lt_of_lt_of_le E0.lt gr)).symm
      rcases q256 with ⟨hall, AR⟩ | AR
      · refine o_astore W256 (L' := #[.val (.ref b0), .val (.ref b1), .val (.int (0 : Int32)), .val (.int (3 : Int32)), .val .null, .val (.ref r256)]) own_d3_39 rfl rfl (pc' := 41) rfl ?_
        refine o_aloadN W256 own_d3_41 (v := (.ref b0)) rfl rfl (pc' := 42) rfl ?_
        refine o_aload W256 own_d3_42 (v := (.ref r256)) rfl rfl (pc' := 44) rfl ?_
        refine o_iloadN W256 own_d3_44 (v := (3 : Int32)) rfl (pc' := 45) rfl ?_
        refine o_callSI W256 (rm17_3L l Z a0 hw r256 h256 n0 W256.le k0 k1 k2 AR) (ow hw 78 rfl) (ow hw 79 rfl) (ow hw 73 rfl) (ow hw 80 rfl) (by decide) (argsL := [(.ref r256), (.int (3 : Int32))]) (S := [(.ref b0)]) (lenOf own_pd13 rfl) rfl rfl rfl (wt := 1) rfl (by decide) (by decide) (by decide) (by decide) (kk' := 2) rfl (nn' := 9) rfl own_d3_45 (pc' := 48) rfl ?_
        intro r257 T257 h257 W257 q257 z257
        obtain ⟨q257, rfl⟩ := q257
        obtain rfl : r257 = (0 : Int32) := q257
        refine o_putF W257 (ow hw 26 rfl) Fc_256 E_256 (Or.inr ⟨(ow hw 22 rfl), rfl, rfl⟩) (ow hw 7 rfl) (ty := .byte) (by decide) (v' := (.int (nar .byte (0 : Int32)))) rfl (fits_nar_byte _) g0 own_d3_48 (pc' := 51) rfl ?_
        intro T258 h258 W258 R258
        have F_value_b0_258 := Fld.other R258 Fv_256 (Or.inr (slot_ne (Or.inr (ow hw 21 rfl)) (Or.inr (ow hw 22 rfl)) (by decide) (t := (.array .byte)) (t' := .byte) (by decide) (by decide)))
        have F_coder_b0_258 := Fc_256.same R258
        have X_b0_258 := Exa.wr R258 E_256
        have A_r256_258 := AR.keep1 (Keep.of_wr R258) ne_r256_b0
        have ST_258 := ST_256.wr R258
        have K_258 := KI_256.wr R258 (Or.inl (by simp))
        refine o_aloadN W258 own_d3_51 (v := (.ref b0)) rfl rfl (pc' := 52) rfl ?_
        refine o_aload W258 own_d3_52 (v := (.ref r256)) rfl rfl (pc' := 54) rfl ?_
        refine o_putF W258 (ow hw 25 rfl) F_value_b0_258 X_b0_258 (Or.inr ⟨(ow hw 21 rfl), rfl, rfl⟩) (ow hw 7 rfl) (ty := (.array .byte)) (by decide) (v' := (.ref r256)) rfl rfl g0 own_d3_54 (pc' := 57) rfl ?_
        intro T259 h259 W259 R259
        have F_value_b0_259 := F_value_b0_258.same R259
        have F_coder_b0_259 := Fld.other R259 F_coder_b0_258 (Or.inr (slot_ne (Or.inr (ow hw 22 rfl)) (Or.inr (ow hw 21 rfl)) (by decide) (t := .byte) (t' := (.array .byte)) (by decide) (by decide)))
        have X_b0_259 := Exa.wr R259 X_b0_258
        have A_r256_259 := A_r256_258.keep1 (Keep.of_wr R259) ne_r256_b0
        have ST_259 := ST_258.wr R259
        have K_259 := K_258.wr R259 (Or.inl (by simp))
        refine o_retV W259 rfl own_d3_57 (by decide) (by decide) ?_
        exact ⟨rfl, X_b0_259, K_259, ST_259, r256, F_value_b0_259, Or.inl ⟨hall, F_coder_b0_259, A_r256_259⟩⟩
      · refine o_astore W256 (L' := #[.val (.ref b0), .val (.ref b1), .val (.int (0 : Int32)), .val (.int (3 : Int32)), .val .null, .val (.ref r256)]) own_d3_39 rfl rfl (pc' := 41) rfl ?_
        refine o_aloadN W256 own_d3_41 (v := (.ref b0)) rfl rfl (pc' := 42) rfl ?_
        refine o_aload W256 own_d3_42 (v := (.ref r256)) rfl rfl (pc' := 44) rfl ?_
        refine o_iloadN W256 own_d3_44 (v := (3 : Int32)) rfl (pc' := 45) rfl ?_
        refine o_callSI W256 (rm17_3U l Z a0 hw r256 h256 n0 W256.le k0 k1 k2 AR) (ow hw 78 rfl) (ow hw 79 rfl) (ow hw 73 rfl) (ow hw 80 rfl) (by decide) (argsL := [(.ref r256), (.int (3 : Int32))]) (S := [(.ref b0)]) (lenOf own_pd13 rfl) rfl rfl rfl (wt := 1) rfl (by decide) (by decide) (by decide) (by decide) (kk' := 2) rfl (nn' := 9) rfl own_d3_45 (pc' := 48) rfl ?_
        intro r260 T260 h260 W260 q260 z260
        obtain ⟨q260, rfl⟩ := q260
        obtain rfl : r260 = (1 : Int32) := q260
        refine o_putF W260 (ow hw 26 rfl) Fc_256 E_256 (Or.inr ⟨(ow hw 22 rfl), rfl, rfl⟩) (ow hw 7 rfl) (ty := .byte) (by decide) (v' := (.int (nar .byte (1 : Int32)))) rfl (fits_nar_byte _) g0 own_d3_48 (pc' := 51) rfl ?_
        intro T261 h261 W261 R261
        have F_value_b0_261 := Fld.other R261 Fv_256 (Or.inr (slot_ne (Or.inr (ow hw 21 rfl)) (Or.inr (ow hw 22 rfl)) (by decide) (t := (.array .byte)) (t' := .byte) (by decide) (by decide)))
        have F_coder_b0_261 := Fc_256.same R261
        have X_b0_261 := Exa.wr R261 E_256
        have A_r256_261 := AR.keep1 (Keep.of_wr R261) ne_r256_b0
        have ST_261 := ST_256.wr R261
        have K_261 := KI_256.wr R261 (Or.inl (by simp))
        refine o_aloadN W261 own_d3_51 (v := (.ref b0)) rfl rfl (pc' := 52) rfl ?_
        refine o_aload W261 own_d3_52 (v := (.ref r256)) rfl rfl (pc' := 54) rfl ?_
        refine o_putF W261 (ow hw 25 rfl) F_value_b0_261 X_b0_261 (Or.inr ⟨(ow hw 21 rfl), rfl, rfl⟩) (ow hw 7 rfl) (ty := (.array .byte)) (by decide) (v' := (.ref r256)) rfl rfl g0 own_d3_54 (pc' := 57) rfl ?_
        intro T262 h262 W262 R262
        have F_value_b0_262 := F_value_b0_261.same R262
        have F_coder_b0_262 := Fld.other R262 F_coder_b0_261 (Or.inr (slot_ne (Or.inr (ow hw 22 rfl)) (Or.inr (ow hw 21 rfl)) (by decide) (t := .byte) (t' := (.array .byte)) (by decide) (by decide)))
        have X_b0_262 := Exa.wr R262 X_b0_261
        have A_r256_262 := A_r256_261.keep1 (Keep.of_wr R262) ne_r256_b0
        have ST_262 := ST_261.wr R262
        have K_262 := K_261.wr R262 (Or.inl (by simp))
        refine o_retV W262 rfl own_d3_57 (by decide) (by decide) ?_
        exact ⟨rfl, X_b0_262, K_262, ST_262, r256, F_value_b0_262, Or.inr ⟨F_coder_b0_262, A_r256_262⟩⟩
  · exact absurd hc5 (by decide)
theorem own_ef2_3 (m : MethodId) (z0 : Addr) (z1 : Addr) : entryFrame m #[(.ref z0), (.ref z1)] 2 = mkF m 0 #[.val (.ref z0), .val (.ref z1)] [] := by first | (simp [entryFrame, mkF, argsToLocals, Value.category]; done) | rfl
set_option maxRecDepth 65536 in
set_option maxHeartbeats 4000000 in
theorem rm2_3 (l : Launch) (Z : State) (a0 : Array Value) (hw : ∀ d ∈ tables_1, d.before a0 Z = true) (b0 : Addr) (b1 : Addr) (h0 : Heap) (n0 : Nat) (Z0 : n0 ≤ h0.size) (cs : Int32) (fm : Value) (ST : OSt Z h0 cs fm) (hcs : ¬ cs.toInt = 0) (k0 k1 k2 : Int32) (hk0 : 0 ≤ k0.toInt ∧ k0.toInt ≤ 65535) (hk1 : 0 ≤ k1.toInt ∧ k1.toInt ≤ 65535) (hk2 : 0 ≤ k2.toInt ∧ k2.toInt ≤ 65535) (A1 : OA Z h0 b1 .char [k0, k1, k2]) (E0 : Exa Z h0 b0 "java/lang/String") (Fv : Fld Z h0 b0 "java/lang/String" "value" "[B" .null) (Fc : Fld Z h0 b0 "java/lang/String" "coder" "B" (.int (0 : Int32))) (g0 : n0 ≤ b0) :
    OCon l Z (⟨"java/lang/String", "<init>", "([C)V"⟩ : MethodName) jdk_42_method_3_code 2 none [] ({ frames := 5, cells := 2, slots := 9, locals := 74 } : Room) #[(.ref b0), (.ref b1)] h0 n0 (QV fun h' => Exa Z h' b0 "java/lang/String" ∧ Keep h0 h' [b0] ∧ OSt Z h' cs fm ∧ ∃ r, Fld Z h' b0 "java/lang/String" "value" "[B" (.ref r) ∧ (((k0.toInt ≤ 255 ∧ k1.toInt ≤ 255 ∧ k2.toInt ≤ 255) ∧ Fld Z h' b0 "java/lang/String" "coder" "B" (.int 0) ∧ OA Z h' r .byte [own_b k0, own_b k1, own_b k2]) ∨ (Fld Z h' b0 "java/lang/String" "coder" "B" (.int 1) ∧ OA Z h' r .byte [own_lo k0, own_hi k0, own_lo k1, own_hi k1, own_lo k2, own_hi k2]))) := by
  refine OCon.mk (plainFor_of_name own_pn4) Z0 ?_
  intro p e s m below meth cd s₁ W0
  refine OF.cast (own_ef2_3 m b0 b1) ?_
  refine o_aloadN W0 own_d2_0 (v := (.ref b0)) rfl rfl (pc' := 1) rfl ?_
  refine o_aloadN W0 own_d2_1 (v := (.ref b1)) rfl rfl (pc' := 2) rfl ?_
  refine o_iconst W0 (v := (0 : Int32)) own_d2_2 rfl (pc' := 3) rfl ?_
  refine o_aloadN W0 own_d2_3 (v := (.ref b1)) rfl rfl (pc' := 4) rfl ?_
  refine o_arraylength W0 A1 own_d2_4 (pc' := 5) rfl ?_
  intro v263 hv263
  obtain rfl : v263 = (3 : Int32) := o_eq (y := (3 : Int32)) hv263
  refine o_aconstNull W0 own_d2_5 (pc' := 6) rfl ?_
  refine o_callC W0 (rm3_3 l Z a0 hw b0 b1 h0 n0 W0.le cs fm ST hcs k0 k1 k2 hk0 hk1 hk2 A1 E0 Fv Fc g0) rfl (ow hw 12 rfl) (ow hw 13 rfl) (ow hw 8 rfl) (ow hw 15 rfl) (by decide) (argsL := [(.ref b1), (.int (0 : Int32)), (.int (3 : Int32)), .null]) (S := []) (lenOf own_pd14 rfl) rfl rfl rfl (wt := 0) rfl (by decide) (by decide) (by decide) (by decide) (kk' := 2) rfl (nn' := 9) rfl own_d2_6 (pc' := 9) rfl ?_
  intro T264 h264 W264 q264 z264
  refine o_retV W264 rfl own_d2_9 (by decide) (by decide) ?_
  exact ⟨rfl, q264⟩
theorem own_ef9_3L (m : MethodId) (z0 : Addr) : entryFrame m #[(.ref z0)] 1 = mkF m 0 #[.val (.ref z0)] [] := by first | (simp [entryFrame, mkF, argsToLocals, Value.category]; done) | rfl
set_option maxRecDepth 65536 in
set_option maxHeartbeats 4000000 in
theorem rm9_3L (l : Launch) (Z : State) (a0 : Array Value) (hw : ∀ d ∈ tables_1, d.before a0 Z = true) (b0 : Addr) (h0 : Heap) (n0 : Nat) (Z0 : n0 ≤ h0.size) (cs : Int32) (fm : Value) (ST : OSt Z h0 cs fm) (hcs : ¬ cs.toInt = 0) (k0 k1 k2 : Int32) (b1 : Addr) (E0 : Exa Z h0 b0 "java/lang/String") (Fv : Fld Z h0 b0 "java/lang/String" "value" "[B" (.ref b1)) (Fc : Fld Z h0 b0 "java/lang/String" "coder" "B" (.int (0 : Int32))) (A1 : OA Z h0 b1 .byte [own_b k0, own_b k1, own_b k2]) :
    OCon l Z (⟨"java/lang/String", "length", "()I"⟩ : MethodName) jdk_42_method_54_code 1 (some .int) [] ({ frames := 1, cells := 0, slots := 0, locals := 13 } : Room) #[(.ref b0)] h0 n0 (QI fun r h' => r = (3 : Int32) ∧ h0 = h') := by
  refine OCon.mk (plainFor_of_name own_pn4) Z0 ?_
  intro p e s m below meth cd s₁ W0
  refine OF.cast (own_ef9_3L m b0) ?_
  refine o_aloadN W0 own_d9_0 (v := (.ref b0)) rfl rfl (pc' := 1) rfl ?_
  refine o_getF W0 (ow hw 25 rfl) Fv own_d9_1 (pc' := 4) rfl ?_
  intro T265 W265
  refine o_arraylength W265 A1 own_d9_4 (pc' := 5) rfl ?_
  intro v266 hv266
  obtain rfl : v266 = (3 : Int32) := o_eq (y := (3 : Int32)) hv266
  refine o_aloadN W265 own_d9_5 (v := (.ref b0)) rfl rfl (pc' := 6) rfl ?_
  refine o_callV W265 E0 (rm10_L l Z a0 hw b0 h0 n0 W265.le cs fm ST hcs Fc) (ow hw 52 rfl) (ow hw 53 rfl) (notFace_of_selects (args := #[]) (mvT W265.hZ (ow hw 55 rfl))) (ow hw 55 rfl) (ow hw 54 rfl) (ow hw 8 rfl) (ow hw 56 rfl) (by decide) (argsL := []) (S := [(.int (3 : Int32))]) (lenOf own_pd1 rfl) rfl rfl rfl (wt := 1) rfl (by decide) (by decide) (by decide) (by decide) (kk' := 0) rfl (nn' := 0) rfl own_d9_6 (pc' := 9) rfl ?_
  intro vv T267 h267 W267 q267 z267
  obtain ⟨r267, rfl, q267⟩ := q267
  show OF _ _ _ _ _ _ _ T267 (mkF m 9 #[.val (.ref b0)] [(.int r267), (.int (3 : Int32))])
  obtain ⟨q267, rfl⟩ := q267
  obtain rfl : r267 = (0 : Int32) := q267
  refine o_ishr W267 own_d9_9 (pc' := 10) rfl ?_
  show OF _ _ _ _ _ _ _ T267 (mkF m 10 #[.val (.ref b0)] [(.int (3 : Int32))])
  refine o_retI W267 rfl own_d9_10 (by decide) (by decide) ?_
  exact ⟨_, rfl, rfl, rfl⟩
theorem own_ef19_3 (m : MethodId) (z0 : Addr) (z1 : Int32) (z2 : Int32) (z3 : Int32) : entryFrame m #[(.ref z0), (.int z1), (.int z2), (.int z3)] 6 = mkF m 0 #[.val (.ref z0), .val (.int z1), .val (.int z2), .val (.int z3), .unset, .unset] [] := by first | (simp [entryFrame, mkF, argsToLocals, Value.category]; done) | rfl
set_option maxRecDepth 65536 in
set_option maxHeartbeats 4000000 in
theorem rm19_3 (l : Launch) (Z : State) (a0 : Array Value) (hw : ∀ d ∈ tables_1, d.before a0 Z = true) (b1 : Addr) (y1 : Int32) (h0 : Heap) (n0 : Nat) (Z0 : n0 ≤ h0.size) (hy : 0 ≤ y1.toInt ∧ y1.toInt < 128) (k0 k1 k2 : Int32) (hk0 : 0 ≤ k0.toInt ∧ k0.toInt ≤ 65535) (hk1 : 0 ≤ k1.toInt ∧ k1.toInt ≤ 65535) (hk2 : 0 ≤ k2.toInt ∧ k2.toInt ≤ 65535) (hall : k0.toInt ≤ 255 ∧ k1.toInt ≤ 255 ∧ k2.toInt ≤ 255) (A1 : OA Z h0 b1 .byte [own_b k0, own_b k1, own_b k2]) :
    OCon l Z (⟨"java/lang/StringLatin1", "indexOfChar", "([BIII)I"⟩ : MethodName) jdk_43_method_23_code 6 (some .int) [] ({ frames := 0, cells := 0, slots := 0, locals := 0 } : Room) #[(.ref b1), (.int y1), (.int (0 : Int32)), (.int (3 : Int32))] h0 n0 (QI fun r h' => ((0 ≤ r.toInt ∧ (k0.toInt = y1.toInt ∨ k1.toInt = y1.toInt ∨ k2.toInt = y1.toInt)) ∨ (r.toInt < 0 ∧ ¬ (k0.toInt = y1.toInt ∨ k1.toInt = y1.toInt ∨ k2.toInt = y1.toInt))) ∧ h0 = h') := by
  refine OCon.mk (plainFor_of_name own_pn1) Z0 ?_
  intro p e s m below meth cd s₁ W0
  refine OF.cast (own_ef19_3 m b1 y1 (0 : Int32) (3 : Int32)) ?_
  have cm1 : (-1 : Int32).toInt = -1 := rfl
  have ci0 : (0 : Int32).toInt = 0 := rfl
  have ci1 : (1 : Int32).toInt = 1 := rfl
  have ci2 : (2 : Int32).toInt = 2 := rfl
  have ci3 : (3 : Int32).toInt = 3 := rfl
  have ci4 : (4 : Int32).toInt = 4 := rfl
  refine o_iloadN W0 own_d19_0 (v := y1) rfl (pc' := 1) rfl ?_
  refine o_i2b W0 own_d19_1 (pc' := 2) rfl ?_
  refine o_istoreG W0 (Lf := fun v268 => #[.val (.ref b1), .val (.int y1), .val (.int (0 : Int32)), .val (.int (3 : Int32)), .val (.int v268), .unset]) own_d19_2 rfl (pc' := 4) rfl ?_
  intro v268 hv268
  have hb0 := own_bcmp k0 y1 hk0.1 (by omega) hy.1 hy.2
  rw [← hv268] at hb0
  have hb1 := own_bcmp k1 y1 hk1.1 (by omega) hy.1 hy.2
  rw [← hv268] at hb1
  have hb2 := own_bcmp k2 y1 hk2.1 (by omega) hy.1 hy.2
  rw [← hv268] at hb2
  refine o_iloadN W0 own_d19_4 (v := (0 : Int32)) rfl (pc' := 5) rfl ?_
  refine o_istore W0 (L' := #[.val (.ref b1), .val (.int y1), .val (.int (0 : Int32)), .val (.int (3 : Int32)), .val (.int v268), .val (.int (0 : Int32))]) own_d19_5 rfl (pc' := 7) rfl ?_
  refine o_iload W0 own_d19_7 (v := (0 : Int32)) rfl (pc' := 9) rfl ?_
  refine o_iloadN W0 own_d19_9 (v := (3 : Int32)) rfl (pc' := 10) rfl ?_
  refine o_icmp_ge W0 own_d19_10 (by decide) (pq := 31) (by decide) (pc' := 13) rfl (fun hc10 => ?_) (fun hc10 => ?_)
  · exact absurd hc10 (by decide)
  · refine o_aloadN W0 own_d19_13 (v := (.ref b1)) rfl rfl (pc' := 14) rfl ?_
    refine o_iload W0 own_d19_14 (v := (0 : Int32)) rfl (pc' := 16) rfl ?_
    refine o_baload W0 A1 own_d19_16 (pc' := 17) rfl (i := 0) (v := own_b k0) rfl rfl ?_
    refine o_iload W0 own_d19_17 (v := v268) rfl (pc' := 19) rfl ?_
    refine o_icmp_ne W0 own_d19_19 (by decide) (pq := 25) (by decide) (pc' := 22) rfl (fun hc19 => ?_) (fun hc19 => ?_)
    · refine o_iinc W0 (x := (0 : Int32)) (L' := #[.val (.ref b1), .val (.int y1), .val (.int (0 : Int32)), .val (.int (3 : Int32)), .val (.int v268), .val (.int ((0 : Int32) + (1 : Int32)))]) own_d19_25 rfl rfl (pc' := 28) rfl ?_
      show OF _ _ _ _ _ _ _ s₁ (mkF m 28 #[.val (.ref b1), .val (.int y1), .val (.int (0 : Int32)), .val (.int (3 : Int32)), .val (.int v268), .val (.int (1 : Int32))] [])
      refine o_goto W0 own_d19_28 (by decide) (pq := 7) (by decide) ?_
      refine o_iload W0 own_d19_7 (v := (1 : Int32)) rfl (pc' := 9) rfl ?_
      refine o_iloadN W0 own_d19_9 (v := (3 : Int32)) rfl (pc' := 10) rfl ?_
      refine o_icmp_ge W0 own_d19_10 (by decide) (pq := 31) (by decide) (pc' := 13) rfl (fun hc10 => ?_) (fun hc10 => ?_)
      · exact absurd hc10 (by decide)
      · refine o_aloadN W0 own_d19_13 (v := (.ref b1)) rfl rfl (pc' := 14) rfl ?_
        refine o_iload W0 own_d19_14 (v := (1 : Int32)) rfl (pc' := 16) rfl ?_
        refine o_baload W0 A1 own_d19_16 (pc' := 17) rfl (i := 1) (v := own_b k1) rfl rfl ?_
        refine o_iload W0 own_d19_17 (v := v268) rfl (pc' := 19) rfl ?_
        refine o_icmp_ne W0 own_d19_19 (by decide) (pq := 25) (by decide) (pc' := 22) rfl (fun hc19 => ?_) (fun hc19 => ?_)
        · refine o_iinc W0 (x := (1 : Int32)) (L' := #[.val (.ref b1), .val (.int y1), .val (.int (0 : Int32)), .val (.int (3 : Int32)), .val (.int v268), .val (.int ((1 : Int32) + (1 : Int32)))]) own_d19_25 rfl rfl (pc' := 28) rfl ?_
          show OF _ _ _ _ _ _ _ s₁ (mkF m 28 #[.val (.ref b1), .val (.int y1), .val (.int (0 : Int32)), .val (.int (3 : Int32)), .val (.int v268), .val (.int (2 : Int32))] [])
          refine o_goto W0 own_d19_28 (by decide) (pq := 7) (by decide) ?_
          refine o_iload W0 own_d19_7 (v := (2 : Int32)) rfl (pc' := 9) rfl ?_
          refine o_iloadN W0 own_d19_9 (v := (3 : Int32)) rfl (pc' := 10) rfl ?_
          refine o_icmp_ge W0 own_d19_10 (by decide) (pq := 31) (by decide) (pc' := 13) rfl (fun hc10 => ?_) (fun hc10 => ?_)
          · exact absurd hc10 (by decide)
          · refine o_aloadN W0 own_d19_13 (v := (.ref b1)) rfl rfl (pc' := 14) rfl ?_
            refine o_iload W0 own_d19_14 (v := (2 : Int32)) rfl (pc' := 16) rfl ?_
            refine o_baload W0 A1 own_d19_16 (pc' := 17) rfl (i := 2) (v := own_b k2) rfl rfl ?_
            refine o_iload W0 own_d19_17 (v := v268) rfl (pc' := 19) rfl ?_
            refine o_icmp_ne W0 own_d19_19 (by decide) (pq := 25) (by decide) (pc' := 22) rfl (fun hc19 => ?_) (fun hc19 => ?_)
            · refine o_iinc W0 (x := (2 : Int32)) (L' := #[.val (.ref b1), .val (.int y1), .val (.int (0 : Int32)), .val (.int (3 : Int32)), .val (.int v268), .val (.int ((2 : Int32) + (1 : Int32)))]) own_d19_25 rfl rfl (pc' := 28) rfl ?_
              show OF _ _ _ _ _ _ _ s₁ (mkF m 28 #[.val (.ref b1), .val (.int y1), .val (.int (0 : Int32)), .val (.int (3 : Int32)), .val (.int v268), .val (.int (3 : Int32))] [])
              refine o_goto W0 own_d19_28 (by decide) (pq := 7) (by decide) ?_
              refine o_iload W0 own_d19_7 (v := (3 : Int32)) rfl (pc' := 9) rfl ?_
              refine o_iloadN W0 own_d19_9 (v := (3 : Int32)) rfl (pc' := 10) rfl ?_
              refine o_icmp_ge W0 own_d19_10 (by decide) (pq := 31) (by decide) (pc' := 13) rfl (fun hc10 => ?_) (fun hc10 => ?_)
              · refine o_iconst W0 (v := (-1 : Int32)) own_d19_31 rfl (pc' := 32) rfl ?_
                refine o_retI W0 rfl own_d19_32 (by decide) (by decide) ?_
                exact ⟨_, rfl, by omega, rfl⟩
              · exact absurd hc10 (by decide)
            · refine o_iload W0 own_d19_22 (v := (2 : Int32)) rfl (pc' := 24) rfl ?_
              refine o_retI W0 rfl own_d19_24 (by decide) (by decide) ?_
              exact ⟨_, rfl, by omega, rfl⟩
        · refine o_iload W0 own_d19_22 (v := (1 : Int32)) rfl (pc' := 24) rfl ?_
          refine o_retI W0 rfl own_d19_24 (by decide) (by decide) ?_
          exact ⟨_, rfl, by omega, rfl⟩
    · refine o_iload W0 own_d19_22 (v := (0 : Int32)) rfl (pc' := 24) rfl ?_
      refine o_retI W0 rfl own_d19_24 (by decide) (by decide) ?_
      exact ⟨_, rfl, by omega, rfl⟩
theorem own_ef11_3 (m : MethodId) (z0 : Addr) (z1 : Int32) (z2 : Int32) (z3 : Int32) : entryFrame m #[(.ref z0), (.int z1), (.int z2), (.int z3)] 4 = mkF m 0 #[.val (.ref z0), .val (.int z1), .val (.int z2), .val (.int z3)] [] := by first | (simp [entryFrame, mkF, argsToLocals, Value.category]; done) | rfl
set_option maxRecDepth 65536 in
set_option maxHeartbeats 4000000 in
theorem rm11_3 (l : Launch) (Z : State) (a0 : Array Value) (hw : ∀ d ∈ tables_1, d.before a0 Z = true) (b1 : Addr) (y1 : Int32) (h0 : Heap) (n0 : Nat) (Z0 : n0 ≤ h0.size) (hy : 0 ≤ y1.toInt ∧ y1.toInt < 128) (k0 k1 k2 : Int32) (hk0 : 0 ≤ k0.toInt ∧ k0.toInt ≤ 65535) (hk1 : 0 ≤ k1.toInt ∧ k1.toInt ≤ 65535) (hk2 : 0 ≤ k2.toInt ∧ k2.toInt ≤ 65535) (hall : k0.toInt ≤ 255 ∧ k1.toInt ≤ 255 ∧ k2.toInt ≤ 255) (A1 : OA Z h0 b1 .byte [own_b k0, own_b k1, own_b k2]) :
    OCon l Z (⟨"java/lang/StringLatin1", "indexOf", "([BIII)I"⟩ : MethodName) jdk_43_method_22_code 4 (some .int) [] ({ frames := 1, cells := 0, slots := 0, locals := 17 } : Room) #[(.ref b1), (.int y1), (.int (0 : Int32)), (.int (3 : Int32))] h0 n0 (QI fun r h' => ((0 ≤ r.toInt ∧ (k0.toInt = y1.toInt ∨ k1.toInt = y1.toInt ∨ k2.toInt = y1.toInt)) ∨ (r.toInt < 0 ∧ ¬ (k0.toInt = y1.toInt ∨ k1.toInt = y1.toInt ∨ k2.toInt = y1.toInt))) ∧ h0 = h') := by
  refine OCon.mk (plainFor_of_name own_pn1) Z0 ?_
  intro p e s m below meth cd s₁ W0
  refine OF.cast (own_ef11_3 m b1 y1 (0 : Int32) (3 : Int32)) ?_
  have cm1 : (-1 : Int32).toInt = -1 := rfl
  have ci0 : (0 : Int32).toInt = 0 := rfl
  have ci1 : (1 : Int32).toInt = 1 := rfl
  have ci2 : (2 : Int32).toInt = 2 := rfl
  have ci3 : (3 : Int32).toInt = 3 := rfl
  have ci4 : (4 : Int32).toInt = 4 := rfl
  refine o_iloadN W0 own_d11_0 (v := y1) rfl (pc' := 1) rfl ?_
  refine o_callSI W0 (rm12 l Z a0 hw y1 h0 n0 W0.le (by omega)) (ow hw 61 rfl) (ow hw 62 rfl) (ow hw 59 rfl) (ow hw 63 rfl) (by decide) (argsL := [(.int y1)]) (S := []) (lenOf own_pd2 rfl) rfl rfl rfl (wt := 0) rfl (by decide) (by decide) (by decide) (by decide) (kk' := 0) rfl (nn' := 0) rfl own_d11_1 (pc' := 4) rfl ?_
  intro r269 T269 h269 W269 q269 z269
  obtain ⟨q269, rfl⟩ := q269
  obtain rfl : r269 = 1 := q269
  refine o_if_ne W269 own_d11_4 (by decide) (pq := 9) (by decide) (pc' := 7) rfl (fun hc4 => ?_) (fun hc4 => ?_)
  · refine o_iloadN W269 own_d11_9 (v := (0 : Int32)) rfl (pc' := 10) rfl ?_
    refine o_iconst W269 (v := (0 : Int32)) own_d11_10 rfl (pc' := 11) rfl ?_
    refine o_callSI W269 (rm13 l Z a0 hw (0 : Int32) (0 : Int32) h0 n0 W269.le) (ow hw 64 rfl) (ow hw 65 rfl) (ow hw 66 rfl) (ow hw 67 rfl) (by decide) (argsL := [(.int (0 : Int32)), (.int (0 : Int32))]) (S := []) (lenOf own_pd3 rfl) rfl rfl rfl (wt := 0) rfl (by decide) (by decide) (by decide) (by decide) (kk' := 0) rfl (nn' := 0) rfl own_d11_11 (pc' := 14) rfl ?_
    intro r270 T270 h270 W270 q270 z270
    obtain ⟨q270, rfl⟩ := q270
    obtain rfl : r270 = (0 : Int32) := by
      rcases q270 with ⟨_, q⟩ | ⟨_, q⟩ <;> exact q
    refine o_istoreN W270 (L' := #[.val (.ref b1), .val (.int y1), .val (.int (0 : Int32)), .val (.int (3 : Int32))]) own_d11_14 rfl (pc' := 15) rfl ?_
    refine o_iloadN W270 own_d11_15 (v := (3 : Int32)) rfl (pc' := 16) rfl ?_
    refine o_aloadN W270 own_d11_16 (v := (.ref b1)) rfl rfl (pc' := 17) rfl ?_
    refine o_arraylength W270 A1 own_d11_17 (pc' := 18) rfl ?_
    intro v271 hv271
    obtain rfl : v271 = (3 : Int32) := o_eq (y := (3 : Int32)) hv271
    refine o_callSI W270 (rm14 l Z a0 hw (3 : Int32) (3 : Int32) h0 n0 W270.le) (ow hw 68 rfl) (ow hw 69 rfl) (ow hw 66 rfl) (ow hw 70 rfl) (by decide) (argsL := [(.int (3 : Int32)), (.int (3 : Int32))]) (S := []) (lenOf own_pd3 rfl) rfl rfl rfl (wt := 0) rfl (by decide) (by decide) (by decide) (by decide) (kk' := 0) rfl (nn' := 0) rfl own_d11_18 (pc' := 21) rfl ?_
    intro r272 T272 h272 W272 q272 z272
    obtain ⟨q272, rfl⟩ := q272
    obtain rfl : r272 = (3 : Int32) := by
      rcases q272 with ⟨_, q⟩ | ⟨_, q⟩ <;> exact q
    refine o_istoreN W272 (L' := #[.val (.ref b1), .val (.int y1), .val (.int (0 : Int32)), .val (.int (3 : Int32))]) own_d11_21 rfl (pc' := 22) rfl ?_
    refine o_iloadN W272 own_d11_22 (v := (0 : Int32)) rfl (pc' := 23) rfl ?_
    refine o_iloadN W272 own_d11_23 (v := (3 : Int32)) rfl (pc' := 24) rfl ?_
    refine o_icmp_lt W272 own_d11_24 (by decide) (pq := 29) (by decide) (pc' := 27) rfl (fun hc24 => ?_) (fun hc24 => ?_)
    · refine o_aloadN W272 own_d11_29 (v := (.ref b1)) rfl rfl (pc' := 30) rfl ?_
      refine o_iloadN W272 own_d11_30 (v := y1) rfl (pc' := 31) rfl ?_
      refine o_iloadN W272 own_d11_31 (v := (0 : Int32)) rfl (pc' := 32) rfl ?_
      refine o_iloadN W272 own_d11_32 (v := (3 : Int32)) rfl (pc' := 33) rfl ?_
      refine o_callSI W272 (rm19_3 l Z a0 hw b1 y1 h0 n0 W272.le hy k0 k1 k2 hk0 hk1 hk2 hall A1) (ow hw 84 rfl) (ow hw 85 rfl) (ow hw 59 rfl) (ow hw 86 rfl) (by decide) (argsL := [(.ref b1), (.int y1), (.int (0 : Int32)), (.int (3 : Int32))]) (S := []) (lenOf own_pd6 rfl) rfl rfl rfl (wt := 0) rfl (by decide) (by decide) (by decide) (by decide) (kk' := 0) rfl (nn' := 0) rfl own_d11_33 (pc' := 36) rfl ?_
      intro r273 T273 h273 W273 q273 z273
      obtain ⟨q273, rfl⟩ := q273
      refine o_retI W273 rfl own_d11_36 (by decide) (by decide) ?_
      exact ⟨_, rfl, q273, rfl⟩
    · exact absurd hc24 (by decide)
  · exact absurd hc4 (by decide)
theorem own_ef7_3L (m : MethodId) (z0 : Addr) (z1 : Int32) (z2 : Int32) : entryFrame m #[(.ref z0), (.int z1), (.int z2)] 3 = mkF m 0 #[.val (.ref z0), .val (.int z1), .val (.int z2)] [] := by first | (simp [entryFrame, mkF, argsToLocals, Value.category]; done) | rfl
set_option maxRecDepth 65536 in
set_option maxHeartbeats 4000000 in
theorem rm7_3L (l : Launch) (Z : State) (a0 : Array Value) (hw : ∀ d ∈ tables_1, d.before a0 Z = true) (b0 : Addr) (y1 : Int32) (h0 : Heap) (n0 : Nat) (Z0 : n0 ≤ h0.size) (hy : 0 ≤ y1.toInt ∧ y1.toInt < 128) (cs : Int32) (fm : Value) (ST : OSt Z h0 cs fm) (hcs : ¬ cs.toInt = 0) (hfm : fm.isRef = true) (k0 k1 k2 : Int32) (hk0 : 0 ≤ k0.toInt ∧ k0.toInt ≤ 65535) (hk1 : 0 ≤ k1.toInt ∧ k1.toInt ≤ 65535) (hk2 : 0 ≤ k2.toInt ∧ k2.toInt ≤ 65535) (hall : k0.toInt ≤ 255 ∧ k1.toInt ≤ 255 ∧ k2.toInt ≤ 255) (b1 : Addr) (E0 : Exa Z h0 b0 "java/lang/String") (Fv : Fld Z h0 b0 "java/lang/String" "value" "[B" (.ref b1)) (Fc : Fld Z h0 b0 "java/lang/String" "coder" "B" (.int (0 : Int32))) (A1 : OA Z h0 b1 .byte [own_b k0, own_b k1, own_b k2]) :
    OCon l Z (⟨"java/lang/String", "indexOf", "(II)I"⟩ : MethodName) jdk_42_method_80_code 3 (some .int) [] ({ frames := 5, cells := 0, slots := 0, locals := 73 } : Room) #[(.ref b0), (.int y1), (.int (0 : Int32))] h0 n0 (QI fun r h' => ((0 ≤ r.toInt ∧ (k0.toInt = y1.toInt ∨ k1.toInt = y1.toInt ∨ k2.toInt = y1.toInt)) ∨ (r.toInt < 0 ∧ ¬ (k0.toInt = y1.toInt ∨ k1.toInt = y1.toInt ∨ k2.toInt = y1.toInt))) ∧ h0 = h') := by
  refine OCon.mk (plainFor_of_name own_pn4) Z0 ?_
  intro p e s m below meth cd s₁ W0
  refine OF.cast (own_ef7_3L m b0 y1 (0 : Int32)) ?_
  have c_1___Int32_ : (1 : Int32).toInt = 1 := rfl
  refine o_aloadN W0 own_d7_0 (v := (.ref b0)) rfl rfl (pc' := 1) rfl ?_
  refine o_callV W0 E0 (rm8_L l Z a0 hw b0 h0 n0 W0.le cs fm ST hcs Fc) (ow hw 41 rfl) (ow hw 42 rfl) (notFace_of_selects (args := #[]) (mvT W0.hZ (ow hw 44 rfl))) (ow hw 44 rfl) (ow hw 43 rfl) (ow hw 8 rfl) (ow hw 45 rfl) (by decide) (argsL := []) (S := []) (lenOf own_pd4 rfl) rfl rfl rfl (wt := 0) rfl (by decide) (by decide) (by decide) (by decide) (kk' := 0) rfl (nn' := 0) rfl own_d7_1 (pc' := 4) rfl ?_
  intro vv T274 h274 W274 q274 z274
  obtain ⟨r274, rfl, q274⟩ := q274
  show OF _ _ _ _ _ _ _ T274 (mkF m 4 #[.val (.ref b0), .val (.int y1), .val (.int (0 : Int32))] [(.int r274)])
  obtain ⟨q274, rfl⟩ := q274
  obtain rfl : r274 = (1 : Int32) := q274
  refine o_if_eq W274 own_d7_4 (by decide) (pq := 23) (by decide) (pc' := 7) rfl (fun hc4 => ?_) (fun hc4 => ?_)
  · exact absurd hc4 (by decide)
  · refine o_aloadN W274 own_d7_7 (v := (.ref b0)) rfl rfl (pc' := 8) rfl ?_
    refine o_getF W274 (ow hw 25 rfl) Fv own_d7_8 (pc' := 11) rfl ?_
    intro T275 W275
    refine o_iloadN W275 own_d7_11 (v := y1) rfl (pc' := 12) rfl ?_
    refine o_iloadN W275 own_d7_12 (v := (0 : Int32)) rfl (pc' := 13) rfl ?_
    refine o_aloadN W275 own_d7_13 (v := (.ref b0)) rfl rfl (pc' := 14) rfl ?_
    refine o_callV W275 E0 (rm9_3L l Z a0 hw b0 h0 n0 W275.le cs fm ST hcs k0 k1 k2 b1 E0 Fv Fc A1) (ow hw 47 rfl) (ow hw 48 rfl) (notFace_of_selects (args := #[]) (mvT W275.hZ (ow hw 50 rfl))) (ow hw 50 rfl) (ow hw 49 rfl) (ow hw 8 rfl) (ow hw 51 rfl) (by decide) (argsL := []) (S := [(.int (0 : Int32)), (.int y1), (.ref b1)]) (lenOf own_pd5 rfl) rfl rfl rfl (wt := 3) rfl (by decide) (by decide) (by decide) (by decide) (kk' := 0) rfl (nn' := 0) rfl own_d7_14 (pc' := 17) rfl ?_
    intro vv T276 h276 W276 q276 z276
    obtain ⟨r276, rfl, q276⟩ := q276
    show OF _ _ _ _ _ _ _ T276 (mkF m 17 #[.val (.ref b0), .val (.int y1), .val (.int (0 : Int32))] [(.int r276), (.int (0 : Int32)), (.int y1), (.ref b1)])
    obtain ⟨q276, rfl⟩ := q276
    obtain rfl : r276 = (3 : Int32) := q276
    refine o_callSI W276 (rm11_3 l Z a0 hw b1 y1 h0 n0 W276.le hy k0 k1 k2 hk0 hk1 hk2 hall A1) (ow hw 57 rfl) (ow hw 58 rfl) (ow hw 59 rfl) (ow hw 60 rfl) (by decide) (argsL := [(.ref b1), (.int y1), (.int (0 : Int32)), (.int (3 : Int32))]) (S := []) (lenOf own_pd6 rfl) rfl rfl rfl (wt := 0) rfl (by decide) (by decide) (by decide) (by decide) (kk' := 0) rfl (nn' := 0) rfl own_d7_17 (pc' := 20) rfl ?_
    intro r277 T277 h277 W277 q277 z277
    obtain ⟨q277, rfl⟩ := q277
    refine o_goto W277 own_d7_20 (by decide) (pq := 36) (by decide) ?_
    refine o_retI W277 rfl own_d7_36 (by decide) (by decide) ?_
    exact ⟨_, rfl, q277, rfl⟩
theorem own_ef6_3L (m : MethodId) (z0 : Addr) (z1 : Int32) : entryFrame m #[(.ref z0), (.int z1)] 2 = mkF m 0 #[.val (.ref z0), .val (.int z1)] [] := by first | (simp [entryFrame, mkF, argsToLocals, Value.category]; done) | rfl
set_option maxRecDepth 65536 in
set_option maxHeartbeats 4000000 in
theorem rm6_3L (l : Launch) (Z : State) (a0 : Array Value) (hw : ∀ d ∈ tables_1, d.before a0 Z = true) (b0 : Addr) (y1 : Int32) (h0 : Heap) (n0 : Nat) (Z0 : n0 ≤ h0.size) (hy : 0 ≤ y1.toInt ∧ y1.toInt < 128) (cs : Int32) (fm : Value) (ST : OSt Z h0 cs fm) (hcs : ¬ cs.toInt = 0) (hfm : fm.isRef = true) (k0 k1 k2 : Int32) (hk0 : 0 ≤ k0.toInt ∧ k0.toInt ≤ 65535) (hk1 : 0 ≤ k1.toInt ∧ k1.toInt ≤ 65535) (hk2 : 0 ≤ k2.toInt ∧ k2.toInt ≤ 65535) (hall : k0.toInt ≤ 255 ∧ k1.toInt ≤ 255 ∧ k2.toInt ≤ 255) (b1 : Addr) (E0 : Exa Z h0 b0 "java/lang/String") (Fv : Fld Z h0 b0 "java/lang/String" "value" "[B" (.ref b1)) (Fc : Fld Z h0 b0 "java/lang/String" "coder" "B" (.int (0 : Int32))) (A1 : OA Z h0 b1 .byte [own_b k0, own_b k1, own_b k2]) :
    OCon l Z (⟨"java/lang/String", "indexOf", "(I)I"⟩ : MethodName) jdk_42_method_79_code 2 (some .int) [] ({ frames := 6, cells := 0, slots := 0, locals := 87 } : Room) #[(.ref b0), (.int y1)] h0 n0 (QI fun r h' => ((0 ≤ r.toInt ∧ (k0.toInt = y1.toInt ∨ k1.toInt = y1.toInt ∨ k2.toInt = y1.toInt)) ∨ (r.toInt < 0 ∧ ¬ (k0.toInt = y1.toInt ∨ k1.toInt = y1.toInt ∨ k2.toInt = y1.toInt))) ∧ h0 = h') := by
  refine OCon.mk (plainFor_of_name own_pn4) Z0 ?_
  intro p e s m below meth cd s₁ W0
  refine OF.cast (own_ef6_3L m b0 y1) ?_
  refine o_aloadN W0 own_d6_0 (v := (.ref b0)) rfl rfl (pc' := 1) rfl ?_
  refine o_iloadN W0 own_d6_1 (v := y1) rfl (pc' := 2) rfl ?_
  refine o_iconst W0 (v := (0 : Int32)) own_d6_2 rfl (pc' := 3) rfl ?_
  refine o_callV W0 E0 (rm7_3L l Z a0 hw b0 y1 h0 n0 W0.le hy cs fm ST hcs hfm k0 k1 k2 hk0 hk1 hk2 hall b1 E0 Fv Fc A1) (ow hw 36 rfl) (ow hw 37 rfl) (notFace_of_selects (args := #[]) (mvT W0.hZ (ow hw 39 rfl))) (ow hw 39 rfl) (ow hw 38 rfl) (ow hw 8 rfl) (ow hw 40 rfl) (by decide) (argsL := [(.int y1), (.int (0 : Int32))]) (S := []) (lenOf own_pd3 rfl) rfl rfl rfl (wt := 0) rfl (by decide) (by decide) (by decide) (by decide) (kk' := 0) rfl (nn' := 0) rfl own_d6_3 (pc' := 6) rfl ?_
  intro vv T278 h278 W278 q278 z278
  obtain ⟨r278, rfl, q278⟩ := q278
  show OF _ _ _ _ _ _ _ T278 (mkF m 6 #[.val (.ref b0), .val (.int y1)] [(.int r278)])
  obtain ⟨q278, rfl⟩ := q278
  refine o_retI W278 rfl own_d6_6 (by decide) (by decide) ?_
  exact ⟨_, rfl, q278, rfl⟩
theorem own_ef5_3L (m : MethodId) (z0 : Addr) : entryFrame m #[(.ref z0)] 1 = mkF m 0 #[.val (.ref z0)] [] := by first | (simp [entryFrame, mkF, argsToLocals, Value.category]; done) | rfl
set_option maxRecDepth 65536 in
set_option maxHeartbeats 4000000 in
theorem rm5_3L (l : Launch) (Z : State) (a0 : Array Value) (hw : ∀ d ∈ tables_1, d.before a0 Z = true) (b0 : Addr) (h0 : Heap) (n0 : Nat) (Z0 : n0 ≤ h0.size) (cs : Int32) (fm : Value) (ST : OSt Z h0 cs fm) (hcs : ¬ cs.toInt = 0) (hfm : fm.isRef = true) (k0 k1 k2 : Int32) (hk0 : 0 ≤ k0.toInt ∧ k0.toInt ≤ 65535) (hk1 : 0 ≤ k1.toInt ∧ k1.toInt ≤ 65535) (hk2 : 0 ≤ k2.toInt ∧ k2.toInt ≤ 65535) (hall : k0.toInt ≤ 255 ∧ k1.toInt ≤ 255 ∧ k2.toInt ≤ 255) (b1 : Addr) (E0 : Exa Z h0 b0 "java/lang/String") (Fv : Fld Z h0 b0 "java/lang/String" "value" "[B" (.ref b1)) (Fc : Fld Z h0 b0 "java/lang/String" "coder" "B" (.int (0 : Int32))) (A1 : OA Z h0 b1 .byte [own_b k0, own_b k1, own_b k2]) :
    OCon l Z (⟨"com/example/austere_access/austereaccess/policy/Glob", "isLiteral", "(Ljava/lang/String;)Z"⟩ : MethodName) prog_39_method_2_code 1 (some .boolean) [] ({ frames := 7, cells := 0, slots := 0, locals := 100 } : Room) #[(.ref b0)] h0 n0 (QI fun r h' => ((r = 1 ∧ ¬ (k0.toInt = 42 ∨ k0.toInt = 63 ∨ k1.toInt = 42 ∨ k1.toInt = 63 ∨ k2.toInt = 42 ∨ k2.toInt = 63)) ∨ (r = 0 ∧ (k0.toInt = 42 ∨ k0.toInt = 63 ∨ k1.toInt = 42 ∨ k1.toInt = 63 ∨ k2.toInt = 42 ∨ k2.toInt = 63))) ∧ h0 = h') := by
  refine OCon.mk (plainFor_of_name own_pn5) Z0 ?_
  intro p e s m below meth cd s₁ W0
  refine OF.cast (own_ef5_3L m b0) ?_
  have c42 : (42 : Int32).toInt = 42 := rfl
  have c63 : (63 : Int32).toInt = 63 := rfl
  refine o_aloadN W0 own_d5_0 (v := (.ref b0)) rfl rfl (pc' := 1) rfl ?_
  refine o_bipush W0 (v := (42 : Int32)) own_d5_1 rfl (pc' := 3) rfl ?_
  refine o_callV W0 E0 (rm6_3L l Z a0 hw b0 (42 : Int32) h0 n0 W0.le (by decide) cs fm ST hcs hfm k0 k1 k2 hk0 hk1 hk2 hall b1 E0 Fv Fc A1) (ow hw 31 rfl) (ow hw 32 rfl) (notFace_of_selects (args := #[]) (mvT W0.hZ (ow hw 34 rfl))) (ow hw 34 rfl) (ow hw 33 rfl) (ow hw 8 rfl) (ow hw 35 rfl) (by decide) (argsL := [(.int (42 : Int32))]) (S := []) (lenOf own_pd7 rfl) rfl rfl rfl (wt := 0) rfl (by decide) (by decide) (by decide) (by decide) (kk' := 0) rfl (nn' := 0) rfl own_d5_3 (pc' := 6) rfl ?_
  intro vv T279 h279 W279 q279 z279
  obtain ⟨r279, rfl, q279⟩ := q279
  show OF _ _ _ _ _ _ _ T279 (mkF m 6 #[.val (.ref b0)] [(.int r279)])
  obtain ⟨q279, rfl⟩ := q279
  refine o_if_ge W279 own_d5_6 (by decide) (pq := 22) (by decide) (pc' := 9) rfl (fun hc6 => ?_) (fun hc6 => ?_)
  · refine o_iconst W279 (v := (0 : Int32)) own_d5_22 rfl (pc' := 23) rfl ?_
    refine o_retN W279 (t := .boolean) rfl (by simp) own_d5_23 (by decide) (by decide) ?_
    exact ⟨(0 : Int32), rfl, Or.inr ⟨rfl, by omega⟩, rfl⟩
  · refine o_aloadN W279 own_d5_9 (v := (.ref b0)) rfl rfl (pc' := 10) rfl ?_
    refine o_bipush W279 (v := (63 : Int32)) own_d5_10 rfl (pc' := 12) rfl ?_
    refine o_callV W279 E0 (rm6_3L l Z a0 hw b0 (63 : Int32) h0 n0 W279.le (by decide) cs fm ST hcs hfm k0 k1 k2 hk0 hk1 hk2 hall b1 E0 Fv Fc A1) (ow hw 31 rfl) (ow hw 32 rfl) (notFace_of_selects (args := #[]) (mvT W279.hZ (ow hw 34 rfl))) (ow hw 34 rfl) (ow hw 33 rfl) (ow hw 8 rfl) (ow hw 35 rfl) (by decide) (argsL := [(.int (63 : Int32))]) (S := []) (lenOf own_pd7 rfl) rfl rfl rfl (wt := 0) rfl (by decide) (by decide) (by decide) (by decide) (kk' := 0) rfl (nn' := 0) rfl own_d5_12 (pc' := 15) rfl ?_
    intro vv T280 h280 W280 q280 z280
    obtain ⟨r280, rfl, q280⟩ := q280
    show OF _ _ _ _ _ _ _ T280 (mkF m 15 #[.val (.ref b0)] [(.int r280)])
    obtain ⟨q280, rfl⟩ := q280
    refine o_if_ge W280 own_d5_15 (by decide) (pq := 22) (by decide) (pc' := 18) rfl (fun hc15 => ?_) (fun hc15 => ?_)
    · refine o_iconst W280 (v := (0 : Int32)) own_d5_22 rfl (pc' := 23) rfl ?_
      refine o_retN W280 (t := .boolean) rfl (by simp) own_d5_23 (by decide) (by decide) ?_
      exact ⟨(0 : Int32), rfl, Or.inr ⟨rfl, by omega⟩, rfl⟩
    · refine o_iconst W280 (v := (1 : Int32)) own_d5_18 rfl (pc' := 19) rfl ?_
      refine o_goto W280 own_d5_19 (by decide) (pq := 23) (by decide) ?_
      refine o_retN W280 (t := .boolean) rfl (by simp) own_d5_23 (by decide) (by decide) ?_
      exact ⟨(1 : Int32), rfl, Or.inl ⟨rfl, by omega⟩, rfl⟩
theorem own_ef9_3U (m : MethodId) (z0 : Addr) : entryFrame m #[(.ref z0)] 1 = mkF m 0 #[.val (.ref z0)] [] := by first | (simp [entryFrame, mkF, argsToLocals, Value.category]; done) | rfl
set_option maxRecDepth 65536 in
set_option maxHeartbeats 4000000 in
theorem rm9_3U (l : Launch) (Z : State) (a0 : Array Value) (hw : ∀ d ∈ tables_1, d.before a0 Z = true) (b0 : Addr) (h0 : Heap) (n0 : Nat) (Z0 : n0 ≤ h0.size) (cs : Int32) (fm : Value) (ST : OSt Z h0 cs fm) (hcs : ¬ cs.toInt = 0) (k0 k1 k2 : Int32) (b1 : Addr) (E0 : Exa Z h0 b0 "java/lang/String") (Fv : Fld Z h0 b0 "java/lang/String" "value" "[B" (.ref b1)) (Fc : Fld Z h0 b0 "java/lang/String" "coder" "B" (.int (1 : Int32))) (A1 : OA Z h0 b1 .byte [own_lo k0, own_hi k0, own_lo k1, own_hi k1, own_lo k2, own_hi k2]) :
    OCon l Z (⟨"java/lang/String", "length", "()I"⟩ : MethodName) jdk_42_method_54_code 1 (some .int) [] ({ frames := 1, cells := 0, slots := 0, locals := 13 } : Room) #[(.ref b0)] h0 n0 (QI fun r h' => r = (3 : Int32) ∧ h0 = h') := by
  refine OCon.mk (plainFor_of_name own_pn4) Z0 ?_
  intro p e s m below meth cd s₁ W0
  refine OF.cast (own_ef9_3U m b0) ?_
  refine o_aloadN W0 own_d9_0 (v := (.ref b0)) rfl rfl (pc' := 1) rfl ?_
  refine o_getF W0 (ow hw 25 rfl) Fv own_d9_1 (pc' := 4) rfl ?_
  intro T281 W281
  refine o_arraylength W281 A1 own_d9_4 (pc' := 5) rfl ?_
  intro v282 hv282
  obtain rfl : v282 = (6 : Int32) := o_eq (y := (6 : Int32)) hv282
  refine o_aloadN W281 own_d9_5 (v := (.ref b0)) rfl rfl (pc' := 6) rfl ?_
  refine o_callV W281 E0 (rm10_U l Z a0 hw b0 h0 n0 W281.le cs fm ST hcs Fc) (ow hw 52 rfl) (ow hw 53 rfl) (notFace_of_selects (args := #[]) (mvT W281.hZ (ow hw 55 rfl))) (ow hw 55 rfl) (ow hw 54 rfl) (ow hw 8 rfl) (ow hw 56 rfl) (by decide) (argsL := []) (S := [(.int (6 : Int32))]) (lenOf own_pd1 rfl) rfl rfl rfl (wt := 1) rfl (by decide) (by decide) (by decide) (by decide) (kk' := 0) rfl (nn' := 0) rfl own_d9_6 (pc' := 9) rfl ?_
  intro vv T283 h283 W283 q283 z283
  obtain ⟨r283, rfl, q283⟩ := q283
  show OF _ _ _ _ _ _ _ T283 (mkF m 9 #[.val (.ref b0)] [(.int r283), (.int (6 : Int32))])
  obtain ⟨q283, rfl⟩ := q283
  obtain rfl : r283 = (1 : Int32) := q283
  refine o_ishr W283 own_d9_9 (pc' := 10) rfl ?_
  show OF _ _ _ _ _ _ _ T283 (mkF m 10 #[.val (.ref b0)] [(.int (3 : Int32))])
  refine o_retI W283 rfl own_d9_10 (by decide) (by decide) ?_
  exact ⟨_, rfl, rfl, rfl⟩
theorem own_ef28_3 (m : MethodId) (z0 : Addr) : entryFrame m #[(.ref z0)] 1 = mkF m 0 #[.val (.ref z0)] [] := by first | (simp [entryFrame, mkF, argsToLocals, Value.category]; done) | rfl
set_option maxRecDepth 65536 in
set_option maxHeartbeats 4000000 in
theorem rm28_3 (l : Launch) (Z : State) (a0 : Array Value) (hw : ∀ d ∈ tables_1, d.before a0 Z = true) (b1 : Addr) (h0 : Heap) (n0 : Nat) (Z0 : n0 ≤ h0.size) (k0 k1 k2 : Int32) (A1 : OA Z h0 b1 .byte [own_lo k0, own_hi k0, own_lo k1, own_hi k1, own_lo k2, own_hi k2]) :
    OCon l Z (⟨"java/lang/StringUTF16", "length", "([B)I"⟩ : MethodName) jdk_52_method_6_code 1 (some .int) [] ({ frames := 0, cells := 0, slots := 0, locals := 0 } : Room) #[(.ref b1)] h0 n0 (QI fun r h' => r = (3 : Int32) ∧ h0 = h') := by
  refine OCon.mk (plainFor_of_name own_pn2) Z0 ?_
  intro p e s m below meth cd s₁ W0
  refine OF.cast (own_ef28_3 m b1) ?_
  refine o_aloadN W0 own_d28_0 (v := (.ref b1)) rfl rfl (pc' := 1) rfl ?_
  refine o_arraylength W0 A1 own_d28_1 (pc' := 2) rfl ?_
  intro v284 hv284
  obtain rfl : v284 = (6 : Int32) := o_eq (y := (6 : Int32)) hv284
  refine o_iconst W0 (v := (1 : Int32)) own_d28_2 rfl (pc' := 3) rfl ?_
  refine o_ishr W0 own_d28_3 (pc' := 4) rfl ?_
  show OF _ _ _ _ _ _ _ s₁ (mkF m 4 #[.val (.ref b1)] [(.int (3 : Int32))])
  refine o_retI W0 rfl own_d28_4 (by decide) (by decide) ?_
  exact ⟨_, rfl, rfl, rfl⟩
theorem own_ef27_3 (m : MethodId) (z0 : Int32) (z1 : Int32) (z2 : Addr) : entryFrame m #[(.int z0), (.int z1), (.ref z2)] 3 = mkF m 0 #[.val (.int z0), .val (.int z1), .val (.ref z2)] [] := by first | (simp [entryFrame, mkF, argsToLocals, Value.category]; done) | rfl
set_option maxRecDepth 65536 in
set_option maxHeartbeats 4000000 in
theorem rm27_3 (l : Launch) (Z : State) (a0 : Array Value) (hw : ∀ d ∈ tables_1, d.before a0 Z = true) (b1 : Addr) (h0 : Heap) (n0 : Nat) (Z0 : n0 ≤ h0.size) (cs : Int32) (fm : Value) (ST : OSt Z h0 cs fm) (hfm : fm.isRef = true) (k0 k1 k2 : Int32) (A1 : OA Z h0 b1 .byte [own_lo k0, own_hi k0, own_lo k1, own_hi k1, own_lo k2, own_hi k2]) :
    OCon l Z (⟨"java/lang/StringUTF16", "checkBoundsBeginEnd", "(II[B)V"⟩ : MethodName) jdk_52_method_93_code 3 none [] ({ frames := 2, cells := 0, slots := 0, locals := 29 } : Room) #[(.int (0 : Int32)), (.int (3 : Int32)), (.ref b1)] h0 n0 (QV fun h' => h0 = h') := by
  refine OCon.mk (plainFor_of_name own_pn2) Z0 ?_
  intro p e s m below meth cd s₁ W0
  refine OF.cast (own_ef27_3 m (0 : Int32) (3 : Int32) b1) ?_
  refine o_iloadN W0 own_d27_0 (v := (0 : Int32)) rfl (pc' := 1) rfl ?_
  refine o_iloadN W0 own_d27_1 (v := (3 : Int32)) rfl (pc' := 2) rfl ?_
  refine o_aloadN W0 own_d27_2 (v := (.ref b1)) rfl rfl (pc' := 3) rfl ?_
  refine o_callSI W0 (rm28_3 l Z a0 hw b1 h0 n0 W0.le k0 k1 k2 A1) (ow hw 118 rfl) (ow hw 119 rfl) (ow hw 73 rfl) (ow hw 120 rfl) (by decide) (argsL := [(.ref b1)]) (S := [(.int (3 : Int32)), (.int (0 : Int32))]) (lenOf own_pd15 rfl) rfl rfl rfl (wt := 2) rfl (by decide) (by decide) (by decide) (by decide) (kk' := 0) rfl (nn' := 0) rfl own_d27_3 (pc' := 6) rfl ?_
  intro r285 T285 h285 W285 q285 z285
  obtain ⟨q285, rfl⟩ := q285
  obtain rfl : r285 = (3 : Int32) := q285
  refine o_callS W285 (rm29 l Z a0 hw (0 : Int32) (3 : Int32) (3 : Int32) h0 n0 W285.le cs fm ST hfm (by decide)) (ow hw 121 rfl) (ow hw 122 rfl) (ow hw 8 rfl) (ow hw 123 rfl) (by decide) (argsL := [(.int (0 : Int32)), (.int (3 : Int32)), (.int (3 : Int32))]) (S := []) (lenOf own_pd16 rfl) rfl rfl rfl (wt := 0) rfl (by decide) (by decide) (by decide) (by decide) (kk' := 0) rfl (nn' := 0) rfl own_d27_6 (pc' := 9) rfl ?_
  intro r286 T286 h286 W286 q286 z286
  obtain ⟨rfl, q286⟩ := q286
  show OF _ _ _ _ _ _ _ T286 (mkF m 9 #[.val (.int (0 : Int32)), .val (.int (3 : Int32)), .val (.ref b1)] [])
  obtain rfl := q286
  refine o_retV W286 rfl own_d27_9 (by decide) (by decide) ?_
  exact ⟨rfl, rfl⟩
theorem own_ef31_3 (m : MethodId) (z0 : Addr) (z1 : Int32) (z2 : Int32) (z3 : Int32) : entryFrame m #[(.ref z0), (.int z1), (.int z2), (.int z3)] 5 = mkF m 0 #[.val (.ref z0), .val (.int z1), .val (.int z2), .val (.int z3), .unset] [] := by first | (simp [entryFrame, mkF, argsToLocals, Value.category]; done) | rfl
set_option maxRecDepth 65536 in
set_option maxHeartbeats 4000000 in
theorem rm31_3 (l : Launch) (Z : State) (a0 : Array Value) (hw : ∀ d ∈ tables_1, d.before a0 Z = true) (b1 : Addr) (y1 : Int32) (h0 : Heap) (n0 : Nat) (Z0 : n0 ≤ h0.size) (cs : Int32) (fm : Value) (ST : OSt Z h0 cs fm) (hy : 0 ≤ y1.toInt ∧ y1.toInt < 128) (k0 k1 k2 : Int32) (hk0 : 0 ≤ k0.toInt ∧ k0.toInt ≤ 65535) (hk1 : 0 ≤ k1.toInt ∧ k1.toInt ≤ 65535) (hk2 : 0 ≤ k2.toInt ∧ k2.toInt ≤ 65535) (A1 : OA Z h0 b1 .byte [own_lo k0, own_hi k0, own_lo k1, own_hi k1, own_lo k2, own_hi k2]) :
    OCon l Z (⟨"java/lang/StringUTF16", "indexOfCharUnsafe", "([BIII)I"⟩ : MethodName) jdk_52_method_48_code 5 (some .int) [] ({ frames := 1, cells := 0, slots := 0, locals := 13 } : Room) #[(.ref b1), (.int y1), (.int (0 : Int32)), (.int (3 : Int32))] h0 n0 (QI fun r h' => ((0 ≤ r.toInt ∧ (k0.toInt = y1.toInt ∨ k1.toInt = y1.toInt ∨ k2.toInt = y1.toInt)) ∨ (r.toInt < 0 ∧ ¬ (k0.toInt = y1.toInt ∨ k1.toInt = y1.toInt ∨ k2.toInt = y1.toInt))) ∧ h0 = h') := by
  refine OCon.mk (plainFor_of_name own_pn2) Z0 ?_
  intro p e s m below meth cd s₁ W0
  refine OF.cast (own_ef31_3 m b1 y1 (0 : Int32) (3 : Int32)) ?_
  have cm1 : (-1 : Int32).toInt = -1 := rfl
  have ci0 : (0 : Int32).toInt = 0 := rfl
  have ci1 : (1 : Int32).toInt = 1 := rfl
  have ci2 : (2 : Int32).toInt = 2 := rfl
  have ci3 : (3 : Int32).toInt = 3 := rfl
  have ci4 : (4 : Int32).toInt = 4 := rfl
  refine o_iloadN W0 own_d31_0 (v := (0 : Int32)) rfl (pc' := 1) rfl ?_
  refine o_istore W0 (L' := #[.val (.ref b1), .val (.int y1), .val (.int (0 : Int32)), .val (.int (3 : Int32)), .val (.int (0 : Int32))]) own_d31_1 rfl (pc' := 3) rfl ?_
  refine o_iload W0 own_d31_3 (v := (0 : Int32)) rfl (pc' := 5) rfl ?_
  refine o_iloadN W0 own_d31_5 (v := (3 : Int32)) rfl (pc' := 6) rfl ?_
  refine o_icmp_ge W0 own_d31_6 (by decide) (pq := 28) (by decide) (pc' := 9) rfl (fun hc6 => ?_) (fun hc6 => ?_)
  · exact absurd hc6 (by decide)
  · refine o_aloadN W0 own_d31_9 (v := (.ref b1)) rfl rfl (pc' := 10) rfl ?_
    refine o_iload W0 own_d31_10 (v := (0 : Int32)) rfl (pc' := 12) rfl ?_
    refine o_callSI W0 (rm24 l Z a0 hw b1 (0 : Int32) h0 n0 W0.le cs fm ST _ 0 _ _ A1 rfl (by decide) rfl rfl) (ow hw 103 rfl) (ow hw 104 rfl) (ow hw 73 rfl) (ow hw 105 rfl) (by decide) (argsL := [(.ref b1), (.int (0 : Int32))]) (S := []) (lenOf own_pd12 rfl) rfl rfl rfl (wt := 0) rfl (by decide) (by decide) (by decide) (by decide) (kk' := 0) rfl (nn' := 0) rfl own_d31_12 (pc' := 15) rfl ?_
    intro r287 T287 h287 W287 q287 z287
    obtain ⟨q287, rfl⟩ := q287
    obtain rfl : r287 = k0 := q287.trans (own_gcv k0 hk0.1 hk0.2)
    refine o_iloadN W287 own_d31_15 (v := y1) rfl (pc' := 16) rfl ?_
    refine o_icmp_ne W287 own_d31_16 (by decide) (pq := 22) (by decide) (pc' := 19) rfl (fun hc16 => ?_) (fun hc16 => ?_)
    · refine o_iinc W287 (x := (0 : Int32)) (L' := #[.val (.ref b1), .val (.int y1), .val (.int (0 : Int32)), .val (.int (3 : Int32)), .val (.int ((0 : Int32) + (1 : Int32)))]) own_d31_22 rfl rfl (pc' := 25) rfl ?_
      show OF _ _ _ _ _ _ _ T287 (mkF m 25 #[.val (.ref b1), .val (.int y1), .val (.int (0 : Int32)), .val (.int (3 : Int32)), .val (.int (1 : Int32))] [])
      refine o_goto W287 own_d31_25 (by decide) (pq := 3) (by decide) ?_
      refine o_iload W287 own_d31_3 (v := (1 : Int32)) rfl (pc' := 5) rfl ?_
      refine o_iloadN W287 own_d31_5 (v := (3 : Int32)) rfl (pc' := 6) rfl ?_
      refine o_icmp_ge W287 own_d31_6 (by decide) (pq := 28) (by decide) (pc' := 9) rfl (fun hc6 => ?_) (fun hc6 => ?_)
      · exact absurd hc6 (by decide)
      · refine o_aloadN W287 own_d31_9 (v := (.ref b1)) rfl rfl (pc' := 10) rfl ?_
        refine o_iload W287 own_d31_10 (v := (1 : Int32)) rfl (pc' := 12) rfl ?_
        refine o_callSI W287 (rm24 l Z a0 hw b1 (1 : Int32) h0 n0 W287.le cs fm ST _ 1 _ _ A1 rfl (by decide) rfl rfl) (ow hw 103 rfl) (ow hw 104 rfl) (ow hw 73 rfl) (ow hw 105 rfl) (by decide) (argsL := [(.ref b1), (.int (1 : Int32))]) (S := []) (lenOf own_pd12 rfl) rfl rfl rfl (wt := 0) rfl (by decide) (by decide) (by decide) (by decide) (kk' := 0) rfl (nn' := 0) rfl own_d31_12 (pc' := 15) rfl ?_
        intro r288 T288 h288 W288 q288 z288
        obtain ⟨q288, rfl⟩ := q288
        obtain rfl : r288 = k1 := q288.trans (own_gcv k1 hk1.1 hk1.2)
        refine o_iloadN W288 own_d31_15 (v := y1) rfl (pc' := 16) rfl ?_
        refine o_icmp_ne W288 own_d31_16 (by decide) (pq := 22) (by decide) (pc' := 19) rfl (fun hc16 => ?_) (fun hc16 => ?_)
        · refine o_iinc W288 (x := (1 : Int32)) (L' := #[.val (.ref b1), .val (.int y1), .val (.int (0 : Int32)), .val (.int (3 : Int32)), .val (.int ((1 : Int32) + (1 : Int32)))]) own_d31_22 rfl rfl (pc' := 25) rfl ?_
          show OF _ _ _ _ _ _ _ T288 (mkF m 25 #[.val (.ref b1), .val (.int y1), .val (.int (0 : Int32)), .val (.int (3 : Int32)), .val (.int (2 : Int32))] [])
          refine o_goto W288 own_d31_25 (by decide) (pq := 3) (by decide) ?_
          refine o_iload W288 own_d31_3 (v := (2 : Int32)) rfl (pc' := 5) rfl ?_
          refine o_iloadN W288 own_d31_5 (v := (3 : Int32)) rfl (pc' := 6) rfl ?_
          refine o_icmp_ge W288 own_d31_6 (by decide) (pq := 28) (by decide) (pc' := 9) rfl (fun hc6 => ?_) (fun hc6 => ?_)
          · exact absurd hc6 (by decide)
          · refine o_aloadN W288 own_d31_9 (v := (.ref b1)) rfl rfl (pc' := 10) rfl ?_
            refine o_iload W288 own_d31_10 (v := (2 : Int32)) rfl (pc' := 12) rfl ?_
            refine o_callSI W288 (rm24 l Z a0 hw b1 (2 : Int32) h0 n0 W288.le cs fm ST _ 2 _ _ A1 rfl (by decide) rfl rfl) (ow hw 103 rfl) (ow hw 104 rfl) (ow hw 73 rfl) (ow hw 105 rfl) (by decide) (argsL := [(.ref b1), (.int (2 : Int32))]) (S := []) (lenOf own_pd12 rfl) rfl rfl rfl (wt := 0) rfl (by decide) (by decide) (by decide) (by decide) (kk' := 0) rfl (nn' := 0) rfl own_d31_12 (pc' := 15) rfl ?_
            intro r289 T289 h289 W289 q289 z289
            obtain ⟨q289, rfl⟩ := q289
            obtain rfl : r289 = k2 := q289.trans (own_gcv k2 hk2.1 hk2.2)
            refine o_iloadN W289 own_d31_15 (v := y1) rfl (pc' := 16) rfl ?_
            refine o_icmp_ne W289 own_d31_16 (by decide) (pq := 22) (by decide) (pc' := 19) rfl (fun hc16 => ?_) (fun hc16 => ?_)
            · refine o_iinc W289 (x := (2 : Int32)) (L' := #[.val (.ref b1), .val (.int y1), .val (.int (0 : Int32)), .val (.int (3 : Int32)), .val (.int ((2 : Int32) + (1 : Int32)))]) own_d31_22 rfl rfl (pc' := 25) rfl ?_
              show OF _ _ _ _ _ _ _ T289 (mkF m 25 #[.val (.ref b1), .val (.int y1), .val (.int (0 : Int32)), .val (.int (3 : Int32)), .val (.int (3 : Int32))] [])
              refine o_goto W289 own_d31_25 (by decide) (pq := 3) (by decide) ?_
              refine o_iload W289 own_d31_3 (v := (3 : Int32)) rfl (pc' := 5) rfl ?_
              refine o_iloadN W289 own_d31_5 (v := (3 : Int32)) rfl (pc' := 6) rfl ?_
              refine o_icmp_ge W289 own_d31_6 (by decide) (pq := 28) (by decide) (pc' := 9) rfl (fun hc6 => ?_) (fun hc6 => ?_)
              · refine o_iconst W289 (v := (-1 : Int32)) own_d31_28 rfl (pc' := 29) rfl ?_
                refine o_retI W289 rfl own_d31_29 (by decide) (by decide) ?_
                exact ⟨_, rfl, by omega, rfl⟩
              · exact absurd hc6 (by decide)
            · refine o_iload W289 own_d31_19 (v := (2 : Int32)) rfl (pc' := 21) rfl ?_
              refine o_retI W289 rfl own_d31_21 (by decide) (by decide) ?_
              exact ⟨_, rfl, by omega, rfl⟩
        · refine o_iload W288 own_d31_19 (v := (1 : Int32)) rfl (pc' := 21) rfl ?_
          refine o_retI W288 rfl own_d31_21 (by decide) (by decide) ?_
          exact ⟨_, rfl, by omega, rfl⟩
    · refine o_iload W287 own_d31_19 (v := (0 : Int32)) rfl (pc' := 21) rfl ?_
      refine o_retI W287 rfl own_d31_21 (by decide) (by decide) ?_
      exact ⟨_, rfl, by omega, rfl⟩
theorem own_ef26_3 (m : MethodId) (z0 : Addr) (z1 : Int32) (z2 : Int32) (z3 : Int32) : entryFrame m #[(.ref z0), (.int z1), (.int z2), (.int z3)] 4 = mkF m 0 #[.val (.ref z0), .val (.int z1), .val (.int z2), .val (.int z3)] [] := by first | (simp [entryFrame, mkF, argsToLocals, Value.category]; done) | rfl
set_option maxRecDepth 65536 in
set_option maxHeartbeats 4000000 in
theorem rm26_3 (l : Launch) (Z : State) (a0 : Array Value) (hw : ∀ d ∈ tables_1, d.before a0 Z = true) (b1 : Addr) (y1 : Int32) (h0 : Heap) (n0 : Nat) (Z0 : n0 ≤ h0.size) (cs : Int32) (fm : Value) (ST : OSt Z h0 cs fm) (hfm : fm.isRef = true) (hy : 0 ≤ y1.toInt ∧ y1.toInt < 128) (k0 k1 k2 : Int32) (hk0 : 0 ≤ k0.toInt ∧ k0.toInt ≤ 65535) (hk1 : 0 ≤ k1.toInt ∧ k1.toInt ≤ 65535) (hk2 : 0 ≤ k2.toInt ∧ k2.toInt ≤ 65535) (A1 : OA Z h0 b1 .byte [own_lo k0, own_hi k0, own_lo k1, own_hi k1, own_lo k2, own_hi k2]) :
    OCon l Z (⟨"java/lang/StringUTF16", "indexOfChar", "([BIII)I"⟩ : MethodName) jdk_52_method_47_code 4 (some .int) [] ({ frames := 3, cells := 0, slots := 0, locals := 43 } : Room) #[(.ref b1), (.int y1), (.int (0 : Int32)), (.int (3 : Int32))] h0 n0 (QI fun r h' => ((0 ≤ r.toInt ∧ (k0.toInt = y1.toInt ∨ k1.toInt = y1.toInt ∨ k2.toInt = y1.toInt)) ∨ (r.toInt < 0 ∧ ¬ (k0.toInt = y1.toInt ∨ k1.toInt = y1.toInt ∨ k2.toInt = y1.toInt))) ∧ h0 = h') := by
  refine OCon.mk (plainFor_of_name own_pn2) Z0 ?_
  intro p e s m below meth cd s₁ W0
  refine OF.cast (own_ef26_3 m b1 y1 (0 : Int32) (3 : Int32)) ?_
  refine o_iloadN W0 own_d26_0 (v := (0 : Int32)) rfl (pc' := 1) rfl ?_
  refine o_iloadN W0 own_d26_1 (v := (3 : Int32)) rfl (pc' := 2) rfl ?_
  refine o_aloadN W0 own_d26_2 (v := (.ref b1)) rfl rfl (pc' := 3) rfl ?_
  refine o_callS W0 (rm27_3 l Z a0 hw b1 h0 n0 W0.le cs fm ST hfm k0 k1 k2 A1) (ow hw 115 rfl) (ow hw 116 rfl) (ow hw 73 rfl) (ow hw 117 rfl) (by decide) (argsL := [(.int (0 : Int32)), (.int (3 : Int32)), (.ref b1)]) (S := []) (lenOf own_pd17 rfl) rfl rfl rfl (wt := 0) rfl (by decide) (by decide) (by decide) (by decide) (kk' := 0) rfl (nn' := 0) rfl own_d26_3 (pc' := 6) rfl ?_
  intro r290 T290 h290 W290 q290 z290
  obtain ⟨rfl, q290⟩ := q290
  show OF _ _ _ _ _ _ _ T290 (mkF m 6 #[.val (.ref b1), .val (.int y1), .val (.int (0 : Int32)), .val (.int (3 : Int32))] [])
  obtain rfl := q290
  refine o_aloadN W290 own_d26_6 (v := (.ref b1)) rfl rfl (pc' := 7) rfl ?_
  refine o_iloadN W290 own_d26_7 (v := y1) rfl (pc' := 8) rfl ?_
  refine o_iloadN W290 own_d26_8 (v := (0 : Int32)) rfl (pc' := 9) rfl ?_
  refine o_iloadN W290 own_d26_9 (v := (3 : Int32)) rfl (pc' := 10) rfl ?_
  refine o_callSI W290 (rm31_3 l Z a0 hw b1 y1 h0 n0 W290.le cs fm ST hy k0 k1 k2 hk0 hk1 hk2 A1) (ow hw 129 rfl) (ow hw 130 rfl) (ow hw 73 rfl) (ow hw 131 rfl) (by decide) (argsL := [(.ref b1), (.int y1), (.int (0 : Int32)), (.int (3 : Int32))]) (S := []) (lenOf own_pd6 rfl) rfl rfl rfl (wt := 0) rfl (by decide) (by decide) (by decide) (by decide) (kk' := 0) rfl (nn' := 0) rfl own_d26_10 (pc' := 13) rfl ?_
  intro r291 T291 h291 W291 q291 z291
  obtain ⟨q291, rfl⟩ := q291
  refine o_retI W291 rfl own_d26_13 (by decide) (by decide) ?_
  exact ⟨_, rfl, q291, rfl⟩
theorem own_ef25_3 (m : MethodId) (z0 : Addr) (z1 : Int32) (z2 : Int32) (z3 : Int32) : entryFrame m #[(.ref z0), (.int z1), (.int z2), (.int z3)] 4 = mkF m 0 #[.val (.ref z0), .val (.int z1), .val (.int z2), .val (.int z3)] [] := by first | (simp [entryFrame, mkF, argsToLocals, Value.category]; done) | rfl
set_option maxRecDepth 65536 in
set_option maxHeartbeats 4000000 in
theorem rm25_3 (l : Launch) (Z : State) (a0 : Array Value) (hw : ∀ d ∈ tables_1, d.before a0 Z = true) (b1 : Addr) (y1 : Int32) (h0 : Heap) (n0 : Nat) (Z0 : n0 ≤ h0.size) (cs : Int32) (fm : Value) (ST : OSt Z h0 cs fm) (hfm : fm.isRef = true) (hy : 0 ≤ y1.toInt ∧ y1.toInt < 128) (k0 k1 k2 : Int32) (hk0 : 0 ≤ k0.toInt ∧ k0.toInt ≤ 65535) (hk1 : 0 ≤ k1.toInt ∧ k1.toInt ≤ 65535) (hk2 : 0 ≤ k2.toInt ∧ k2.toInt ≤ 65535) (A1 : OA Z h0 b1 .byte [own_lo k0, own_hi k0, own_lo k1, own_hi k1, own_lo k2, own_hi k2]) :
    OCon l Z (⟨"java/lang/StringUTF16", "indexOf", "([BIII)I"⟩ : MethodName) jdk_52_method_40_code 4 (some .int) [] ({ frames := 4, cells := 0, slots := 0, locals := 58 } : Room) #[(.ref b1), (.int y1), (.int (0 : Int32)), (.int (3 : Int32))] h0 n0 (QI fun r h' => ((0 ≤ r.toInt ∧ (k0.toInt = y1.toInt ∨ k1.toInt = y1.toInt ∨ k2.toInt = y1.toInt)) ∨ (r.toInt < 0 ∧ ¬ (k0.toInt = y1.toInt ∨ k1.toInt = y1.toInt ∨ k2.toInt = y1.toInt))) ∧ h0 = h') := by
  refine OCon.mk (plainFor_of_name own_pn2) Z0 ?_
  intro p e s m below meth cd s₁ W0
  refine OF.cast (own_ef25_3 m b1 y1 (0 : Int32) (3 : Int32)) ?_
  have c_0___Int32_ : (0 : Int32).toInt = 0 := rfl
  have c_3___Int32_ : (3 : Int32).toInt = 3 := rfl
  have c_65536___Int32_ : (65536 : Int32).toInt = 65536 := rfl
  refine o_iloadN W0 own_d25_0 (v := (0 : Int32)) rfl (pc' := 1) rfl ?_
  refine o_iconst W0 (v := (0 : Int32)) own_d25_1 rfl (pc' := 2) rfl ?_
  refine o_callSI W0 (rm13 l Z a0 hw (0 : Int32) (0 : Int32) h0 n0 W0.le) (ow hw 109 rfl) (ow hw 65 rfl) (ow hw 66 rfl) (ow hw 67 rfl) (by decide) (argsL := [(.int (0 : Int32)), (.int (0 : Int32))]) (S := []) (lenOf own_pd3 rfl) rfl rfl rfl (wt := 0) rfl (by decide) (by decide) (by decide) (by decide) (kk' := 0) rfl (nn' := 0) rfl own_d25_2 (pc' := 5) rfl ?_
  intro r292 T292 h292 W292 q292 z292
  obtain ⟨q292, rfl⟩ := q292
  obtain rfl : r292 = (0 : Int32) := by
    rcases q292 with ⟨_, q⟩ | ⟨_, q⟩ <;> exact q
  refine o_istoreN W292 (L' := #[.val (.ref b1), .val (.int y1), .val (.int (0 : Int32)), .val (.int (3 : Int32))]) own_d25_5 rfl (pc' := 6) rfl ?_
  refine o_iloadN W292 own_d25_6 (v := (3 : Int32)) rfl (pc' := 7) rfl ?_
  refine o_aloadN W292 own_d25_7 (v := (.ref b1)) rfl rfl (pc' := 8) rfl ?_
  refine o_arraylength W292 A1 own_d25_8 (pc' := 9) rfl ?_
  intro v293 hv293
  obtain rfl : v293 = (6 : Int32) := o_eq (y := (6 : Int32)) hv293
  refine o_iconst W292 (v := (1 : Int32)) own_d25_9 rfl (pc' := 10) rfl ?_
  refine o_ishr W292 own_d25_10 (pc' := 11) rfl ?_
  show OF _ _ _ _ _ _ _ T292 (mkF m 11 #[.val (.ref b1), .val (.int y1), .val (.int (0 : Int32)), .val (.int (3 : Int32))] [(.int (3 : Int32)), (.int (3 : Int32))])
  refine o_callSI W292 (rm14 l Z a0 hw (3 : Int32) (3 : Int32) h0 n0 W292.le) (ow hw 110 rfl) (ow hw 69 rfl) (ow hw 66 rfl) (ow hw 70 rfl) (by decide) (argsL := [(.int (3 : Int32)), (.int (3 : Int32))]) (S := []) (lenOf own_pd3 rfl) rfl rfl rfl (wt := 0) rfl (by decide) (by decide) (by decide) (by decide) (kk' := 0) rfl (nn' := 0) rfl own_d25_11 (pc' := 14) rfl ?_
  intro r294 T294 h294 W294 q294 z294
  obtain ⟨q294, rfl⟩ := q294
  obtain rfl : r294 = (3 : Int32) := by
    rcases q294 with ⟨_, q⟩ | ⟨_, q⟩ <;> exact q
  refine o_istoreN W294 (L' := #[.val (.ref b1), .val (.int y1), .val (.int (0 : Int32)), .val (.int (3 : Int32))]) own_d25_14 rfl (pc' := 15) rfl ?_
  refine o_iloadN W294 own_d25_15 (v := (0 : Int32)) rfl (pc' := 16) rfl ?_
  refine o_iloadN W294 own_d25_16 (v := (3 : Int32)) rfl (pc' := 17) rfl ?_
  refine o_icmp_lt W294 own_d25_17 (by decide) (pq := 22) (by decide) (pc' := 20) rfl (fun hc17 => ?_) (fun hc17 => ?_)
  · refine o_iloadN W294 own_d25_22 (v := y1) rfl (pc' := 23) rfl ?_
    refine o_ldc W294 (ow hw 111 rfl) own_d25_23 (pc' := 25) rfl ?_
    refine o_icmp_ge W294 own_d25_25 (by decide) (pq := 36) (by decide) (pc' := 28) rfl (fun hc25 => ?_) (fun hc25 => ?_)
    · exfalso; omega
    · refine o_aloadN W294 own_d25_28 (v := (.ref b1)) rfl rfl (pc' := 29) rfl ?_
      refine o_iloadN W294 own_d25_29 (v := y1) rfl (pc' := 30) rfl ?_
      refine o_iloadN W294 own_d25_30 (v := (0 : Int32)) rfl (pc' := 31) rfl ?_
      refine o_iloadN W294 own_d25_31 (v := (3 : Int32)) rfl (pc' := 32) rfl ?_
      refine o_callSI W294 (rm26_3 l Z a0 hw b1 y1 h0 n0 W294.le cs fm ST hfm hy k0 k1 k2 hk0 hk1 hk2 A1) (ow hw 112 rfl) (ow hw 113 rfl) (ow hw 73 rfl) (ow hw 114 rfl) (by decide) (argsL := [(.ref b1), (.int y1), (.int (0 : Int32)), (.int (3 : Int32))]) (S := []) (lenOf own_pd6 rfl) rfl rfl rfl (wt := 0) rfl (by decide) (by decide) (by decide) (by decide) (kk' := 0) rfl (nn' := 0) rfl own_d25_32 (pc' := 35) rfl ?_
      intro r295 T295 h295 W295 q295 z295
      obtain ⟨q295, rfl⟩ := q295
      refine o_retI W295 rfl own_d25_35 (by decide) (by decide) ?_
      exact ⟨_, rfl, q295, rfl⟩
  · exact absurd hc17 (by decide)
theorem own_ef7_3U (m : MethodId) (z0 : Addr) (z1 : Int32) (z2 : Int32) : entryFrame m #[(.ref z0), (.int z1), (.int z2)] 3 = mkF m 0 #[.val (.ref z0), .val (.int z1), .val (.int z2)] [] := by first | (simp [entryFrame, mkF, argsToLocals, Value.category]; done) | rfl
set_option maxRecDepth 65536 in
set_option maxHeartbeats 4000000 in
theorem rm7_3U (l : Launch) (Z : State) (a0 : Array Value) (hw : ∀ d ∈ tables_1, d.before a0 Z = true) (b0 : Addr) (y1 : Int32) (h0 : Heap) (n0 : Nat) (Z0 : n0 ≤ h0.size) (hy : 0 ≤ y1.toInt ∧ y1.toInt < 128) (cs : Int32) (fm : Value) (ST : OSt Z h0 cs fm) (hcs : ¬ cs.toInt = 0) (hfm : fm.isRef = true) (k0 k1 k2 : Int32) (hk0 : 0 ≤ k0.toInt ∧ k0.toInt ≤ 65535) (hk1 : 0 ≤ k1.toInt ∧ k1.toInt ≤ 65535) (hk2 : 0 ≤ k2.toInt ∧ k2.toInt ≤ 65535) (b1 : Addr) (E0 : Exa Z h0 b0 "java/lang/String") (Fv : Fld Z h0 b0 "java/lang/String" "value" "[B" (.ref b1)) (Fc : Fld Z h0 b0 "java/lang/String" "coder" "B" (.int (1 : Int32))) (A1 : OA Z h0 b1 .byte [own_lo k0, own_hi k0, own_lo k1, own_hi k1, own_lo k2, own_hi k2]) :
    OCon l Z (⟨"java/lang/String", "indexOf", "(II)I"⟩ : MethodName) jdk_42_method_80_code 3 (some .int) [] ({ frames := 5, cells := 0, slots := 0, locals := 73 } : Room) #[(.ref b0), (.int y1), (.int (0 : Int32))] h0 n0 (QI fun r h' => ((0 ≤ r.toInt ∧ (k0.toInt = y1.toInt ∨ k1.toInt = y1.toInt ∨ k2.toInt = y1.toInt)) ∨ (r.toInt < 0 ∧ ¬ (k0.toInt = y1.toInt ∨ k1.toInt = y1.toInt ∨ k2.toInt = y1.toInt))) ∧ h0 = h') := by
  refine OCon.mk (plainFor_of_name own_pn4) Z0 ?_
  intro p e s m below meth cd s₁ W0
  refine OF.cast (own_ef7_3U m b0 y1 (0 : Int32)) ?_
  have c_0___Int32_ : (0 : Int32).toInt = 0 := rfl
  refine o_aloadN W0 own_d7_0 (v := (.ref b0)) rfl rfl (pc' := 1) rfl ?_
  refine o_callV W0 E0 (rm8_U l Z a0 hw b0 h0 n0 W0.le cs fm ST hcs Fc) (ow hw 41 rfl) (ow hw 42 rfl) (notFace_of_selects (args := #[]) (mvT W0.hZ (ow hw 44 rfl))) (ow hw 44 rfl) (ow hw 43 rfl) (ow hw 8 rfl) (ow hw 45 rfl) (by decide) (argsL := []) (S := []) (lenOf own_pd4 rfl) rfl rfl rfl (wt := 0) rfl (by decide) (by decide) (by decide) (by decide) (kk' := 0) rfl (nn' := 0) rfl own_d7_1 (pc' := 4) rfl ?_
  intro vv T296 h296 W296 q296 z296
  obtain ⟨r296, rfl, q296⟩ := q296
  show OF _ _ _ _ _ _ _ T296 (mkF m 4 #[.val (.ref b0), .val (.int y1), .val (.int (0 : Int32))] [(.int r296)])
  obtain ⟨q296, rfl⟩ := q296
  obtain rfl : r296 = (0 : Int32) := q296
  refine o_if_eq W296 own_d7_4 (by decide) (pq := 23) (by decide) (pc' := 7) rfl (fun hc4 => ?_) (fun hc4 => ?_)
  · refine o_aloadN W296 own_d7_23 (v := (.ref b0)) rfl rfl (pc' := 24) rfl ?_
    refine o_getF W296 (ow hw 25 rfl) Fv own_d7_24 (pc' := 27) rfl ?_
    intro T297 W297
    refine o_iloadN W297 own_d7_27 (v := y1) rfl (pc' := 28) rfl ?_
    refine o_iloadN W297 own_d7_28 (v := (0 : Int32)) rfl (pc' := 29) rfl ?_
    refine o_aloadN W297 own_d7_29 (v := (.ref b0)) rfl rfl (pc' := 30) rfl ?_
    refine o_callV W297 E0 (rm9_3U l Z a0 hw b0 h0 n0 W297.le cs fm ST hcs k0 k1 k2 b1 E0 Fv Fc A1) (ow hw 47 rfl) (ow hw 48 rfl) (notFace_of_selects (args := #[]) (mvT W297.hZ (ow hw 50 rfl))) (ow hw 50 rfl) (ow hw 49 rfl) (ow hw 8 rfl) (ow hw 51 rfl) (by decide) (argsL := []) (S := [(.int (0 : Int32)), (.int y1), (.ref b1)]) (lenOf own_pd5 rfl) rfl rfl rfl (wt := 3) rfl (by decide) (by decide) (by decide) (by decide) (kk' := 0) rfl (nn' := 0) rfl own_d7_30 (pc' := 33) rfl ?_
    intro vv T298 h298 W298 q298 z298
    obtain ⟨r298, rfl, q298⟩ := q298
    show OF _ _ _ _ _ _ _ T298 (mkF m 33 #[.val (.ref b0), .val (.int y1), .val (.int (0 : Int32))] [(.int r298), (.int (0 : Int32)), (.int y1), (.ref b1)])
    obtain ⟨q298, rfl⟩ := q298
    obtain rfl : r298 = (3 : Int32) := q298
    refine o_callSI W298 (rm25_3 l Z a0 hw b1 y1 h0 n0 W298.le cs fm ST hfm hy k0 k1 k2 hk0 hk1 hk2 A1) (ow hw 106 rfl) (ow hw 107 rfl) (ow hw 73 rfl) (ow hw 108 rfl) (by decide) (argsL := [(.ref b1), (.int y1), (.int (0 : Int32)), (.int (3 : Int32))]) (S := []) (lenOf own_pd6 rfl) rfl rfl rfl (wt := 0) rfl (by decide) (by decide) (by decide) (by decide) (kk' := 0) rfl (nn' := 0) rfl own_d7_33 (pc' := 36) rfl ?_
    intro r299 T299 h299 W299 q299 z299
    obtain ⟨q299, rfl⟩ := q299
    refine o_retI W299 rfl own_d7_36 (by decide) (by decide) ?_
    exact ⟨_, rfl, q299, rfl⟩
  · exact absurd hc4 (by decide)
theorem own_ef6_3U (m : MethodId) (z0 : Addr) (z1 : Int32) : entryFrame m #[(.ref z0), (.int z1)] 2 = mkF m 0 #[.val (.ref z0), .val (.int z1)] [] := by first | (simp [entryFrame, mkF, argsToLocals, Value.category]; done) | rfl
set_option maxRecDepth 65536 in
set_option maxHeartbeats 4000000 in
theorem rm6_3U (l : Launch) (Z : State) (a0 : Array Value) (hw : ∀ d ∈ tables_1, d.before a0 Z = true) (b0 : Addr) (y1 : Int32) (h0 : Heap) (n0 : Nat) (Z0 : n0 ≤ h0.size) (hy : 0 ≤ y1.toInt ∧ y1.toInt < 128) (cs : Int32) (fm : Value) (ST : OSt Z h0 cs fm) (hcs : ¬ cs.toInt = 0) (hfm : fm.isRef = true) (k0 k1 k2 : Int32) (hk0 : 0 ≤ k0.toInt ∧ k0.toInt ≤ 65535) (hk1 : 0 ≤ k1.toInt ∧ k1.toInt ≤ 65535) (hk2 : 0 ≤ k2.toInt ∧ k2.toInt ≤ 65535) (b1 : Addr) (E0 : Exa Z h0 b0 "java/lang/String") (Fv : Fld Z h0 b0 "java/lang/String" "value" "[B" (.ref b1)) (Fc : Fld Z h0 b0 "java/lang/String" "coder" "B" (.int (1 : Int32))) (A1 : OA Z h0 b1 .byte [own_lo k0, own_hi k0, own_lo k1, own_hi k1, own_lo k2, own_hi k2]) :
    OCon l Z (⟨"java/lang/String", "indexOf", "(I)I"⟩ : MethodName) jdk_42_method_79_code 2 (some .int) [] ({ frames := 6, cells := 0, slots := 0, locals := 87 } : Room) #[(.ref b0), (.int y1)] h0 n0 (QI fun r h' => ((0 ≤ r.toInt ∧ (k0.toInt = y1.toInt ∨ k1.toInt = y1.toInt ∨ k2.toInt = y1.toInt)) ∨ (r.toInt < 0 ∧ ¬ (k0.toInt = y1.toInt ∨ k1.toInt = y1.toInt ∨ k2.toInt = y1.toInt))) ∧ h0 = h') := by
  refine OCon.mk (plainFor_of_name own_pn4) Z0 ?_
  intro p e s m below meth cd s₁ W0
  refine OF.cast (own_ef6_3U m b0 y1) ?_
  refine o_aloadN W0 own_d6_0 (v := (.ref b0)) rfl rfl (pc' := 1) rfl ?_
  refine o_iloadN W0 own_d6_1 (v := y1) rfl (pc' := 2) rfl ?_
  refine o_iconst W0 (v := (0 : Int32)) own_d6_2 rfl (pc' := 3) rfl ?_
  refine o_callV W0 E0 (rm7_3U l Z a0 hw b0 y1 h0 n0 W0.le hy cs fm ST hcs hfm k0 k1 k2 hk0 hk1 hk2 b1 E0 Fv Fc A1) (ow hw 36 rfl) (ow hw 37 rfl) (notFace_of_selects (args := #[]) (mvT W0.hZ (ow hw 39 rfl))) (ow hw 39 rfl) (ow hw 38 rfl) (ow hw 8 rfl) (ow hw 40 rfl) (by decide) (argsL := [(.int y1), (.int (0 : Int32))]) (S := []) (lenOf own_pd3 rfl) rfl rfl rfl (wt := 0) rfl (by decide) (by decide) (by decide) (by decide) (kk' := 0) rfl (nn' := 0) rfl own_d6_3 (pc' := 6) rfl ?_
  intro vv T300 h300 W300 q300 z300
  obtain ⟨r300, rfl, q300⟩ := q300
  show OF _ _ _ _ _ _ _ T300 (mkF m 6 #[.val (.ref b0), .val (.int y1)] [(.int r300)])
  obtain ⟨q300, rfl⟩ := q300
  refine o_retI W300 rfl own_d6_6 (by decide) (by decide) ?_
  exact ⟨_, rfl, q300, rfl⟩
theorem own_ef5_3U (m : MethodId) (z0 : Addr) : entryFrame m #[(.ref z0)] 1 = mkF m 0 #[.val (.ref z0)] [] := by first | (simp [entryFrame, mkF, argsToLocals, Value.category]; done) | rfl
set_option maxRecDepth 65536 in
set_option maxHeartbeats 4000000 in
theorem rm5_3U (l : Launch) (Z : State) (a0 : Array Value) (hw : ∀ d ∈ tables_1, d.before a0 Z = true) (b0 : Addr) (h0 : Heap) (n0 : Nat) (Z0 : n0 ≤ h0.size) (cs : Int32) (fm : Value) (ST : OSt Z h0 cs fm) (hcs : ¬ cs.toInt = 0) (hfm : fm.isRef = true) (k0 k1 k2 : Int32) (hk0 : 0 ≤ k0.toInt ∧ k0.toInt ≤ 65535) (hk1 : 0 ≤ k1.toInt ∧ k1.toInt ≤ 65535) (hk2 : 0 ≤ k2.toInt ∧ k2.toInt ≤ 65535) (b1 : Addr) (E0 : Exa Z h0 b0 "java/lang/String") (Fv : Fld Z h0 b0 "java/lang/String" "value" "[B" (.ref b1)) (Fc : Fld Z h0 b0 "java/lang/String" "coder" "B" (.int (1 : Int32))) (A1 : OA Z h0 b1 .byte [own_lo k0, own_hi k0, own_lo k1, own_hi k1, own_lo k2, own_hi k2]) :
    OCon l Z (⟨"com/example/austere_access/austereaccess/policy/Glob", "isLiteral", "(Ljava/lang/String;)Z"⟩ : MethodName) prog_39_method_2_code 1 (some .boolean) [] ({ frames := 7, cells := 0, slots := 0, locals := 100 } : Room) #[(.ref b0)] h0 n0 (QI fun r h' => ((r = 1 ∧ ¬ (k0.toInt = 42 ∨ k0.toInt = 63 ∨ k1.toInt = 42 ∨ k1.toInt = 63 ∨ k2.toInt = 42 ∨ k2.toInt = 63)) ∨ (r = 0 ∧ (k0.toInt = 42 ∨ k0.toInt = 63 ∨ k1.toInt = 42 ∨ k1.toInt = 63 ∨ k2.toInt = 42 ∨ k2.toInt = 63))) ∧ h0 = h') := by
  refine OCon.mk (plainFor_of_name own_pn5) Z0 ?_
  intro p e s m below meth cd s₁ W0
  refine OF.cast (own_ef5_3U m b0) ?_
  have c42 : (42 : Int32).toInt = 42 := rfl
  have c63 : (63 : Int32).toInt = 63 := rfl
  refine o_aloadN W0 own_d5_0 (v := (.ref b0)) rfl rfl (pc' := 1) rfl ?_
  refine o_bipush W0 (v := (42 : Int32)) own_d5_1 rfl (pc' := 3) rfl ?_
  refine o_callV W0 E0 (rm6_3U l Z a0 hw b0 (42 : Int32) h0 n0 W0.le (by decide) cs fm ST hcs hfm k0 k1 k2 hk0 hk1 hk2 b1 E0 Fv Fc A1) (ow hw 31 rfl) (ow hw 32 rfl) (notFace_of_selects (args := #[]) (mvT W0.hZ (ow hw 34 rfl))) (ow hw 34 rfl) (ow hw 33 rfl) (ow hw 8 rfl) (ow hw 35 rfl) (by decide) (argsL := [(.int (42 : Int32))]) (S := []) (lenOf own_pd7 rfl) rfl rfl rfl (wt := 0) rfl (by decide) (by decide) (by decide) (by decide) (kk' := 0) rfl (nn' := 0) rfl own_d5_3 (pc' := 6) rfl ?_
  intro vv T301 h301 W301 q301 z301
  obtain ⟨r301, rfl, q301⟩ := q301
  show OF _ _ _ _ _ _ _ T301 (mkF m 6 #[.val (.ref b0)] [(.int r301)])
  obtain ⟨q301, rfl⟩ := q301
  refine o_if_ge W301 own_d5_6 (by decide) (pq := 22) (by decide) (pc' := 9) rfl (fun hc6 => ?_) (fun hc6 => ?_)
  · refine o_iconst W301 (v := (0 : Int32)) own_d5_22 rfl (pc' := 23) rfl ?_
    refine o_retN W301 (t := .boolean) rfl (by simp) own_d5_23 (by decide) (by decide) ?_
    exact ⟨(0 : Int32), rfl, Or.inr ⟨rfl, by omega⟩, rfl⟩
  · refine o_aloadN W301 own_d5_9 (v := (.ref b0)) rfl rfl (pc' := 10) rfl ?_
    refine o_bipush W301 (v := (63 : Int32)) own_d5_10 rfl (pc' := 12) rfl ?_
    refine o_callV W301 E0 (rm6_3U l Z a0 hw b0 (63 : Int32) h0 n0 W301.le (by decide) cs fm ST hcs hfm k0 k1 k2 hk0 hk1 hk2 b1 E0 Fv Fc A1) (ow hw 31 rfl) (ow hw 32 rfl) (notFace_of_selects (args := #[]) (mvT W301.hZ (ow hw 34 rfl))) (ow hw 34 rfl) (ow hw 33 rfl) (ow hw 8 rfl) (ow hw 35 rfl) (by decide) (argsL := [(.int (63 : Int32))]) (S := []) (lenOf own_pd7 rfl) rfl rfl rfl (wt := 0) rfl (by decide) (by decide) (by decide) (by decide) (kk' := 0) rfl (nn' := 0) rfl own_d5_12 (pc' := 15) rfl ?_
    intro vv T302 h302 W302 q302 z302
    obtain ⟨r302, rfl, q302⟩ := q302
    show OF _ _ _ _ _ _ _ T302 (mkF m 15 #[.val (.ref b0)] [(.int r302)])
    obtain ⟨q302, rfl⟩ := q302
    refine o_if_ge W302 own_d5_15 (by decide) (pq := 22) (by decide) (pc' := 18) rfl (fun hc15 => ?_) (fun hc15 => ?_)
    · refine o_iconst W302 (v := (0 : Int32)) own_d5_22 rfl (pc' := 23) rfl ?_
      refine o_retN W302 (t := .boolean) rfl (by simp) own_d5_23 (by decide) (by decide) ?_
      exact ⟨(0 : Int32), rfl, Or.inr ⟨rfl, by omega⟩, rfl⟩
    · refine o_iconst W302 (v := (1 : Int32)) own_d5_18 rfl (pc' := 19) rfl ?_
      refine o_goto W302 own_d5_19 (by decide) (pq := 23) (by decide) ?_
      refine o_retN W302 (t := .boolean) rfl (by simp) own_d5_23 (by decide) (by decide) ?_
      exact ⟨(1 : Int32), rfl, Or.inl ⟨rfl, by omega⟩, rfl⟩
theorem own_ef0_3 (m : MethodId) (z0 : Int32) (z1 : Int32) (z2 : Int32) (z3 : Int32) (z4 : Int32) : entryFrame m #[(.int z0), (.int z1), (.int z2), (.int z3), (.int z4)] maxLocals = mkF m 0 #[.val (.int z0), .val (.int z1), .val (.int z2), .val (.int z3), .val (.int z4), .unset, .unset, .unset, .unset, .unset, .unset, .unset, .unset, .unset, .unset, .unset, .unset, .unset] [] := by first | (simp [entryFrame, mkF, argsToLocals, Value.category, maxLocals]; done) | rfl
set_option maxRecDepth 65536 in
set_option maxHeartbeats 4000000 in
theorem own_law_3 (l : Launch) (Z : State) (a0 : Array Value) (hw : ∀ d ∈ tables_1, d.before a0 Z = true) (x0 : Int32) (x1 : Int32) (x2 : Int32) (x3 : Int32) (x4 : Int32) (h0 : Heap) (n0 : Nat) (Z0 : n0 ≤ h0.size) (cs : Int32) (fm : Value) (ST : OSt Z h0 cs fm) (hcs : ¬ cs.toInt = 0) (hfm : fm.isRef = true) (hx0 : (x0 &&& 7) - (x0 &&& 7) / 5 * 5 = (3 : Int32)) :
    OCon l Z x code maxLocals ret tables_1 room_1 #[(.int x0), (.int x1), (.int x2), (.int x3), (.int x4)] h0 n0 (fun v _ => v = some (.int 1)) := by
  refine OCon.mk (plainFor_of_name own_pn0) Z0 ?_
  intro p e s m below meth cd s₁ W0
  refine OF.cast (own_ef0_3 m x0 x1 x2 x3 x4) ?_
  refine o_iloadN W0 at_0 (v := x0) rfl (pc' := 1) rfl ?_
  refine o_bipush W0 (v := (7 : Int32)) at_1 rfl (pc' := 3) rfl ?_
  refine o_iand W0 at_3 (pc' := 4) rfl ?_
  refine o_iconst W0 (v := (5 : Int32)) at_4 rfl (pc' := 5) rfl ?_
  refine o_irem W0 at_5 (by decide) (pc' := 6) rfl ?_
  rw [hx0]
  refine o_istore W0 (L' := #[.val (.int x0), .val (.int x1), .val (.int x2), .val (.int x3), .val (.int x4), .val (.int (3 : Int32)), .unset, .unset, .unset, .unset, .unset, .unset, .unset, .unset, .unset, .unset, .unset, .unset]) at_6 rfl (pc' := 8) rfl ?_
  refine o_iloadN W0 at_8 (v := x1) rfl (pc' := 9) rfl ?_
  refine o_callSI W0 (rm1 l Z a0 hw x1 h0 n0 W0.le) (ow hw 0 rfl) (ow hw 1 rfl) (ow hw 2 rfl) (ow hw 3 rfl) (by decide) (argsL := [(.int x1)]) (S := []) (lenOf own_pd18 rfl) rfl rfl rfl (wt := 0) rfl (by decide) (by decide) (by decide) (by decide) (kk' := 0) rfl (nn' := 0) rfl at_9 (pc' := 12) rfl ?_
  intro r303 T303 h303 W303 q303 z303
  obtain ⟨q303, rfl⟩ := q303
  refine o_istore W303 (L' := #[.val (.int x0), .val (.int x1), .val (.int x2), .val (.int x3), .val (.int x4), .val (.int (3 : Int32)), .val (.int r303), .unset, .unset, .unset, .unset, .unset, .unset, .unset, .unset, .unset, .unset, .unset]) at_12 rfl (pc' := 14) rfl ?_
  refine o_iloadN W303 at_14 (v := x2) rfl (pc' := 15) rfl ?_
  refine o_callSI W303 (rm1 l Z a0 hw x2 h0 n0 W303.le) (ow hw 0 rfl) (ow hw 1 rfl) (ow hw 2 rfl) (ow hw 3 rfl) (by decide) (argsL := [(.int x2)]) (S := []) (lenOf own_pd18 rfl) rfl rfl rfl (wt := 0) rfl (by decide) (by decide) (by decide) (by decide) (kk' := 0) rfl (nn' := 0) rfl at_15 (pc' := 18) rfl ?_
  intro r304 T304 h304 W304 q304 z304
  obtain ⟨q304, rfl⟩ := q304
  refine o_istore W304 (L' := #[.val (.int x0), .val (.int x1), .val (.int x2), .val (.int x3), .val (.int x4), .val (.int (3 : Int32)), .val (.int r303), .val (.int r304), .unset, .unset, .unset, .unset, .unset, .unset, .unset, .unset, .unset, .unset]) at_18 rfl (pc' := 20) rfl ?_
  refine o_iloadN W304 at_20 (v := x3) rfl (pc' := 21) rfl ?_
  refine o_callSI W304 (rm1 l Z a0 hw x3 h0 n0 W304.le) (ow hw 0 rfl) (ow hw 1 rfl) (ow hw 2 rfl) (ow hw 3 rfl) (by decide) (argsL := [(.int x3)]) (S := []) (lenOf own_pd18 rfl) rfl rfl rfl (wt := 0) rfl (by decide) (by decide) (by decide) (by decide) (kk' := 0) rfl (nn' := 0) rfl at_21 (pc' := 24) rfl ?_
  intro r305 T305 h305 W305 q305 z305
  obtain ⟨q305, rfl⟩ := q305
  refine o_istore W305 (L' := #[.val (.int x0), .val (.int x1), .val (.int x2), .val (.int x3), .val (.int x4), .val (.int (3 : Int32)), .val (.int r303), .val (.int r304), .val (.int r305), .unset, .unset, .unset, .unset, .unset, .unset, .unset, .unset, .unset]) at_24 rfl (pc' := 26) rfl ?_
  refine o_iload W305 at_26 (v := x4) rfl (pc' := 28) rfl ?_
  refine o_callSI W305 (rm1 l Z a0 hw x4 h0 n0 W305.le) (ow hw 0 rfl) (ow hw 1 rfl) (ow hw 2 rfl) (ow hw 3 rfl) (by decide) (argsL := [(.int x4)]) (S := []) (lenOf own_pd18 rfl) rfl rfl rfl (wt := 0) rfl (by decide) (by decide) (by decide) (by decide) (kk' := 0) rfl (nn' := 0) rfl at_28 (pc' := 31) rfl ?_
  intro r306 T306 h306 W306 q306 z306
  obtain ⟨q306, rfl⟩ := q306
  refine o_istore W306 (L' := #[.val (.int x0), .val (.int x1), .val (.int x2), .val (.int x3), .val (.int x4), .val (.int (3 : Int32)), .val (.int r303), .val (.int r304), .val (.int r305), .val (.int r306), .unset, .unset, .unset, .unset, .unset, .unset, .unset, .unset]) at_31 rfl (pc' := 33) rfl ?_
  refine o_iconst W306 (v := (0 : Int32)) at_33 rfl (pc' := 34) rfl ?_
  refine o_newarray W306 (ty := .char) (len := 0) (cap := 0) (ow hw 5 rfl) rfl rfl rfl at_34 (pc' := 36) rfl rfl (by decide) (by decide) (by decide) (by decide) (kk' := 1) rfl (nn' := 0) rfl ?_
  intro T308 h308 a307 W308 E308 g_a307 A_a307
  have b_a307 : n0 ≤ a307 := by rw [g_a307]; exact W306.le
  have A_a307 : OA Z h308 a307 .char [] := A_a307
  have ST_308 := ST.ext E308
  refine o_astore W308 (L' := #[.val (.int x0), .val (.int x1), .val (.int x2), .val (.int x3), .val (.int x4), .val (.int (3 : Int32)), .val (.int r303), .val (.int r304), .val (.int r305), .val (.int r306), .val (.ref a307), .unset, .unset, .unset, .unset, .unset, .unset, .unset]) at_36 rfl rfl (pc' := 38) rfl ?_
  refine o_iconst W308 (v := (1 : Int32)) at_38 rfl (pc' := 39) rfl ?_
  refine o_newarray W308 (ty := .char) (len := 1) (cap := 1) (ow hw 5 rfl) rfl rfl rfl at_39 (pc' := 41) rfl rfl (by decide) (by decide) (by decide) (by decide) (kk' := 2) rfl (nn' := 1) rfl ?_
  intro T310 h310 a309 W310 E310 g_a309 A_a309
  have b_a309 : n0 ≤ a309 := by rw [g_a309]; exact W308.le
  have ne_a307_a309 : a307 ≠ a309 := Nat.ne_of_lt (Nat.lt_of_lt_of_le A_a307.lt (Nat.le_of_eq g_a309.symm))
  have A_a307_310 := A_a307.ext E310
  have A_a309 : OA Z h310 a309 .char [0] := A_a309
  have ST_310 := ST_308.ext E310
  refine o_dup W310 at_41 rfl (pc' := 42) rfl ?_
  refine o_iconst W310 (v := (0 : Int32)) at_42 rfl (pc' := 43) rfl ?_
  refine o_iload W310 at_43 (v := r303) rfl (pc' := 45) rfl ?_
  refine o_castore W310 A_a309 b_a309 at_45 (pc' := 46) rfl (i := 0) rfl (Nat.le_of_ble_eq_true rfl) ?_
  intro T311 h311 W311 K311 A_a309_311
  have A_a307_311 := A_a307_310.keep1 K311 ne_a307_a309
  have ST_311 := ST_310.keepA A_a309 K311
  have A_a309_311 : OA Z h311 a309 .char [(r303.toUInt32.toUInt16.toUInt32.toInt32)] := A_a309_311
  refine o_astore W311 (L' := #[.val (.int x0), .val (.int x1), .val (.int x2), .val (.int x3), .val (.int x4), .val (.int (3 : Int32)), .val (.int r303), .val (.int r304), .val (.int r305), .val (.int r306), .val (.ref a307), .val (.ref a309), .unset, .unset, .unset, .unset, .unset, .unset]) at_46 rfl rfl (pc' := 48) rfl ?_
  refine o_iconst W311 (v := (2 : Int32)) at_48 rfl (pc' := 49) rfl ?_
  refine o_newarray W311 (ty := .char) (len := 2) (cap := 2) (ow hw 5 rfl) rfl rfl rfl at_49 (pc' := 51) rfl rfl (by decide) (by decide) (by decide) (by decide) (kk' := 3) rfl (nn' := 3) rfl ?_
  intro T313 h313 a312 W313 E313 g_a312 A_a312
  have b_a312 : n0 ≤ a312 := by rw [g_a312]; exact W311.le
  have ne_a307_a312 : a307 ≠ a312 := Nat.ne_of_lt (Nat.lt_of_lt_of_le A_a307_311.lt (Nat.le_of_eq g_a312.symm))
  have A_a307_313 := A_a307_311.ext E313
  have ne_a309_a312 : a309 ≠ a312 := Nat.ne_of_lt (Nat.lt_of_lt_of_le A_a309_311.lt (Nat.le_of_eq g_a312.symm))
  have A_a309_313 := A_a309_311.ext E313
  have A_a312 : OA Z h313 a312 .char [0, 0] := A_a312
  have ST_313 := ST_311.ext E313
  refine o_dup W313 at_51 rfl (pc' := 52) rfl ?_
  refine o_iconst W313 (v := (0 : Int32)) at_52 rfl (pc' := 53) rfl ?_
  refine o_iload W313 at_53 (v := r303) rfl (pc' := 55) rfl ?_
  refine o_castore W313 A_a312 b_a312 at_55 (pc' := 56) rfl (i := 0) rfl (Nat.le_of_ble_eq_true rfl) ?_
  intro T314 h314 W314 K314 A_a312_314
  have A_a307_314 := A_a307_313.keep1 K314 ne_a307_a312
  have A_a309_314 := A_a309_313.keep1 K314 ne_a309_a312
  have ST_314 := ST_313.keepA A_a312 K314
  have A_a312_314 : OA Z h314 a312 .char [(r303.toUInt32.toUInt16.toUInt32.toInt32), 0] := A_a312_314
  refine o_dup W314 at_56 rfl (pc' := 57) rfl ?_
  refine o_iconst W314 (v := (1 : Int32)) at_57 rfl (pc' := 58) rfl ?_
  refine o_iload W314 at_58 (v := r304) rfl (pc' := 60) rfl ?_
  refine o_castore W314 A_a312_314 b_a312 at_60 (pc' := 61) rfl (i := 1) rfl (Nat.le_of_ble_eq_true rfl) ?_
  intro T315 h315 W315 K315 A_a312_315
  have A_a307_315 := A_a307_314.keep1 K315 ne_a307_a312
  have A_a309_315 := A_a309_314.keep1 K315 ne_a309_a312
  have ST_315 := ST_314.keepA A_a312_314 K315
  have A_a312_315 : OA Z h315 a312 .char [(r303.toUInt32.toUInt16.toUInt32.toInt32), (r304.toUInt32.toUInt16.toUInt32.toInt32)] := A_a312_315
  refine o_astore W315 (L' := #[.val (.int x0), .val (.int x1), .val (.int x2), .val (.int x3), .val (.int x4), .val (.int (3 : Int32)), .val (.int r303), .val (.int r304), .val (.int r305), .val (.int r306), .val (.ref a307), .val (.ref a309), .val (.ref a312), .unset, .unset, .unset, .unset, .unset]) at_61 rfl rfl (pc' := 63) rfl ?_
  refine o_iconst W315 (v := (3 : Int32)) at_63 rfl (pc' := 64) rfl ?_
  refine o_newarray W315 (ty := .char) (len := 3) (cap := 3) (ow hw 5 rfl) rfl rfl rfl at_64 (pc' := 66) rfl rfl (by decide) (by decide) (by decide) (by decide) (kk' := 4) rfl (nn' := 6) rfl ?_
  intro T317 h317 a316 W317 E317 g_a316 A_a316
  have b_a316 : n0 ≤ a316 := by rw [g_a316]; exact W315.le
  have ne_a307_a316 : a307 ≠ a316 := Nat.ne_of_lt (Nat.lt_of_lt_of_le A_a307_315.lt (Nat.le_of_eq g_a316.symm))
  have A_a307_317 := A_a307_315.ext E317
  have ne_a309_a316 : a309 ≠ a316 := Nat.ne_of_lt (Nat.lt_of_lt_of_le A_a309_315.lt (Nat.le_of_eq g_a316.symm))
  have A_a309_317 := A_a309_315.ext E317
  have ne_a312_a316 : a312 ≠ a316 := Nat.ne_of_lt (Nat.lt_of_lt_of_le A_a312_315.lt (Nat.le_of_eq g_a316.symm))
  have A_a312_317 := A_a312_315.ext E317
  have A_a316 : OA Z h317 a316 .char [0, 0, 0] := A_a316
  have ST_317 := ST_315.ext E317
  refine o_dup W317 at_66 rfl (pc' := 67) rfl ?_
  refine o_iconst W317 (v := (0 : Int32)) at_67 rfl (pc' := 68) rfl ?_
  refine o_iload W317 at_68 (v := r303) rfl (pc' := 70) rfl ?_
  refine o_castore W317 A_a316 b_a316 at_70 (pc' := 71) rfl (i := 0) rfl (Nat.le_of_ble_eq_true rfl) ?_
  intro T318 h318 W318 K318 A_a316_318
  have A_a307_318 := A_a307_317.keep1 K318 ne_a307_a316
  have A_a309_318 := A_a309_317.keep1 K318 ne_a309_a316
  have A_a312_318 := A_a312_317.keep1 K318 ne_a312_a316
  have ST_318 := ST_317.keepA A_a316 K318
  have A_a316_318 : OA Z h318 a316 .char [(r303.toUInt32.toUInt16.toUInt32.toInt32), 0, 0] := A_a316_318
  refine o_dup W318 at_71 rfl (pc' := 72) rfl ?_
  refine o_iconst W318 (v := (1 : Int32)) at_72 rfl (pc' := 73) rfl ?_
  refine o_iload W318 at_73 (v := r304) rfl (pc' := 75) rfl ?_
  refine o_castore W318 A_a316_318 b_a316 at_75 (pc' := 76) rfl (i := 1) rfl (Nat.le_of_ble_eq_true rfl) ?_
  intro T319 h319 W319 K319 A_a316_319
  have A_a307_319 := A_a307_318.keep1 K319 ne_a307_a316
  have A_a309_319 := A_a309_318.keep1 K319 ne_a309_a316
  have A_a312_319 := A_a312_318.keep1 K319 ne_a312_a316
  have ST_319 := ST_318.keepA A_a316_318 K319
  have A_a316_319 : OA Z h319 a316 .char [(r303.toUInt32.toUInt16.toUInt32.toInt32), (r304.toUInt32.toUInt16.toUInt32.toInt32), 0] := A_a316_319
  refine o_dup W319 at_76 rfl (pc' := 77) rfl ?_
  refine o_iconst W319 (v := (2 : Int32)) at_77 rfl (pc' := 78) rfl ?_
  refine o_iload W319 at_78 (v := r305) rfl (pc' := 80) rfl ?_
  refine o_castore W319 A_a316_319 b_a316 at_80 (pc' := 81) rfl (i := 2) rfl (Nat.le_of_ble_eq_true rfl) ?_
  intro T320 h320 W320 K320 A_a316_320
  have A_a307_320 := A_a307_319.keep1 K320 ne_a307_a316
  have A_a309_320 := A_a309_319.keep1 K320 ne_a309_a316
  have A_a312_320 := A_a312_319.keep1 K320 ne_a312_a316
  have ST_320 := ST_319.keepA A_a316_319 K320
  have A_a316_320 : OA Z h320 a316 .char [(r303.toUInt32.toUInt16.toUInt32.toInt32), (r304.toUInt32.toUInt16.toUInt32.toInt32), (r305.toUInt32.toUInt16.toUInt32.toInt32)] := A_a316_320
  refine o_astore W320 (L' := #[.val (.int x0), .val (.int x1), .val (.int x2), .val (.int x3), .val (.int x4), .val (.int (3 : Int32)), .val (.int r303), .val (.int r304), .val (.int r305), .val (.int r306), .val (.ref a307), .val (.ref a309), .val (.ref a312), .val (.ref a316), .unset, .unset, .unset, .unset]) at_81 rfl rfl (pc' := 83) rfl ?_
  refine o_iconst W320 (v := (4 : Int32)) at_83 rfl (pc' := 84) rfl ?_
  refine o_newarray W320 (ty := .char) (len := 4) (cap := 4) (ow hw 5 rfl) rfl rfl rfl at_84 (pc' := 86) rfl rfl (by decide) (by decide) (by decide) (by decide) (kk' := 5) rfl (nn' := 10) rfl ?_
  intro T322 h322 a321 W322 E322 g_a321 A_a321
  have b_a321 : n0 ≤ a321 := by rw [g_a321]; exact W320.le
  have ne_a307_a321 : a307 ≠ a321 := Nat.ne_of_lt (Nat.lt_of_lt_of_le A_a307_320.lt (Nat.le_of_eq g_a321.symm))
  have A_a307_322 := A_a307_320.ext E322
  have ne_a309_a321 : a309 ≠ a321 := Nat.ne_of_lt (Nat.lt_of_lt_of_le A_a309_320.lt (Nat.le_of_eq g_a321.symm))
  have A_a309_322 := A_a309_320.ext E322
  have ne_a312_a321 : a312 ≠ a321 := Nat.ne_of_lt (Nat.lt_of_lt_of_le A_a312_320.lt (Nat.le_of_eq g_a321.symm))
  have A_a312_322 := A_a312_320.ext E322
  have ne_a316_a321 : a316 ≠ a321 := Nat.ne_of_lt (Nat.lt_of_lt_of_le A_a316_320.lt (Nat.le_of_eq g_a321.symm))
  have A_a316_322 := A_a316_320.ext E322
  have A_a321 : OA Z h322 a321 .char [0, 0, 0, 0] := A_a321
  have ST_322 := ST_320.ext E322
  refine o_dup W322 at_86 rfl (pc' := 87) rfl ?_
  refine o_iconst W322 (v := (0 : Int32)) at_87 rfl (pc' := 88) rfl ?_
  refine o_iload W322 at_88 (v := r303) rfl (pc' := 90) rfl ?_
  refine o_castore W322 A_a321 b_a321 at_90 (pc' := 91) rfl (i := 0) rfl (Nat.le_of_ble_eq_true rfl) ?_
  intro T323 h323 W323 K323 A_a321_323
  have A_a307_323 := A_a307_322.keep1 K323 ne_a307_a321
  have A_a309_323 := A_a309_322.keep1 K323 ne_a309_a321
  have A_a312_323 := A_a312_322.keep1 K323 ne_a312_a321
  have A_a316_323 := A_a316_322.keep1 K323 ne_a316_a321
  have ST_323 := ST_322.keepA A_a321 K323
  have A_a321_323 : OA Z h323 a321 .char [(r303.toUInt32.toUInt16.toUInt32.toInt32), 0, 0, 0] := A_a321_323
  refine o_dup W323 at_91 rfl (pc' := 92) rfl ?_
  refine o_iconst W323 (v := (1 : Int32)) at_92 rfl (pc' := 93) rfl ?_
  refine o_iload W323 at_93 (v := r304) rfl (pc' := 95) rfl ?_
  refine o_castore W323 A_a321_323 b_a321 at_95 (pc' := 96) rfl (i := 1) rfl (Nat.le_of_ble_eq_true rfl) ?_
  intro T324 h324 W324 K324 A_a321_324
  have A_a307_324 := A_a307_323.keep1 K324 ne_a307_a321
  have A_a309_324 := A_a309_323.keep1 K324 ne_a309_a321
  have A_a312_324 := A_a312_323.keep1 K324 ne_a312_a321
  have A_a316_324 := A_a316_323.keep1 K324 ne_a316_a321
  have ST_324 := ST_323.keepA A_a321_323 K324
  have A_a321_324 : OA Z h324 a321 .char [(r303.toUInt32.toUInt16.toUInt32.toInt32), (r304.toUInt32.toUInt16.toUInt32.toInt32), 0, 0] := A_a321_324
  refine o_dup W324 at_96 rfl (pc' := 97) rfl ?_
  refine o_iconst W324 (v := (2 : Int32)) at_97 rfl (pc' := 98) rfl ?_
  refine o_iload W324 at_98 (v := r305) rfl (pc' := 100) rfl ?_
  refine o_castore W324 A_a321_324 b_a321 at_100 (pc' := 101) rfl (i := 2) rfl (Nat.le_of_ble_eq_true rfl) ?_
  intro T325 h325 W325 K325 A_a321_325
  have A_a307_325 := A_a307_324.keep1 K325 ne_a307_a321
  have A_a309_325 := A_a309_324.keep1 K325 ne_a309_a321
  have A_a312_325 := A_a312_324.keep1 K325 ne_a312_a321
  have A_a316_325 := A_a316_324.keep1 K325 ne_a316_a321
  have ST_325 := ST_324.keepA A_a321_324 K325
  have A_a321_325 : OA Z h325 a321 .char [(r303.toUInt32.toUInt16.toUInt32.toInt32), (r304.toUInt32.toUInt16.toUInt32.toInt32), (r305.toUInt32.toUInt16.toUInt32.toInt32), 0] := A_a321_325
  refine o_dup W325 at_101 rfl (pc' := 102) rfl ?_
  refine o_iconst W325 (v := (3 : Int32)) at_102 rfl (pc' := 103) rfl ?_
  refine o_iload W325 at_103 (v := r306) rfl (pc' := 105) rfl ?_
  refine o_castore W325 A_a321_325 b_a321 at_105 (pc' := 106) rfl (i := 3) rfl (Nat.le_of_ble_eq_true rfl) ?_
  intro T326 h326 W326 K326 A_a321_326
  have A_a307_326 := A_a307_325.keep1 K326 ne_a307_a321
  have A_a309_326 := A_a309_325.keep1 K326 ne_a309_a321
  have A_a312_326 := A_a312_325.keep1 K326 ne_a312_a321
  have A_a316_326 := A_a316_325.keep1 K326 ne_a316_a321
  have ST_326 := ST_325.keepA A_a321_325 K326
  have A_a321_326 : OA Z h326 a321 .char [(r303.toUInt32.toUInt16.toUInt32.toInt32), (r304.toUInt32.toUInt16.toUInt32.toInt32), (r305.toUInt32.toUInt16.toUInt32.toInt32), (r306.toUInt32.toUInt16.toUInt32.toInt32)] := A_a321_326
  refine o_astore W326 (L' := #[.val (.int x0), .val (.int x1), .val (.int x2), .val (.int x3), .val (.int x4), .val (.int (3 : Int32)), .val (.int r303), .val (.int r304), .val (.int r305), .val (.int r306), .val (.ref a307), .val (.ref a309), .val (.ref a312), .val (.ref a316), .val (.ref a321), .unset, .unset, .unset]) at_106 rfl rfl (pc' := 108) rfl ?_
  have ACH : OA Z h326 a316 .char [r303, r304, r305] := by
    have q := A_a316_326
    rw [own_i2c q303.1 q303.2] at q
    rw [own_i2c q304.1 q304.2] at q
    rw [own_i2c q305.1 q305.2] at q
    exact q
  refine o_iload W326 at_108 (v := (3 : Int32)) rfl (pc' := 110) rfl ?_
  refine o_if_ne W326 at_110 (by decide) (pq := 120) (by decide) (pc' := 113) rfl (fun hc110 => ?_) (fun hc110 => ?_)
  · refine o_iload W326 at_120 (v := (3 : Int32)) rfl (pc' := 122) rfl ?_
    refine o_iconst W326 (v := (1 : Int32)) at_122 rfl (pc' := 123) rfl ?_
    refine o_icmp_ne W326 at_123 (by decide) (pq := 133) (by decide) (pc' := 126) rfl (fun hc123 => ?_) (fun hc123 => ?_)
    · refine o_iload W326 at_133 (v := (3 : Int32)) rfl (pc' := 135) rfl ?_
      refine o_iconst W326 (v := (2 : Int32)) at_135 rfl (pc' := 136) rfl ?_
      refine o_icmp_ne W326 at_136 (by decide) (pq := 146) (by decide) (pc' := 139) rfl (fun hc136 => ?_) (fun hc136 => ?_)
      · refine o_iload W326 at_146 (v := (3 : Int32)) rfl (pc' := 148) rfl ?_
        refine o_iconst W326 (v := (3 : Int32)) at_148 rfl (pc' := 149) rfl ?_
        refine o_icmp_ne W326 at_149 (by decide) (pq := 159) (by decide) (pc' := 152) rfl (fun hc149 => ?_) (fun hc149 => ?_)
        · exact absurd hc149 (by decide)
        · refine o_aload W326 at_152 (v := (.ref a316)) rfl rfl (pc' := 154) rfl ?_
          refine o_astore W326 (L' := #[.val (.int x0), .val (.int x1), .val (.int x2), .val (.int x3), .val (.int x4), .val (.int (3 : Int32)), .val (.int r303), .val (.int r304), .val (.int r305), .val (.int r306), .val (.ref a307), .val (.ref a309), .val (.ref a312), .val (.ref a316), .val (.ref a321), .val (.ref a316), .unset, .unset]) at_154 rfl rfl (pc' := 156) rfl ?_
          refine o_goto W326 at_156 (by decide) (pq := 163) (by decide) ?_
          refine o_new W326 (ow hw 6 rfl) (ow hw 7 rfl) (ow hw 8 rfl) at_163 (pc' := 166) rfl (by decide) (by decide) (kk' := 6) rfl (nn' := 14) rfl ?_
          intro T328 h328 a327 W328 E328 g_a327 X_a327 D_a327
          have b_a327 : n0 ≤ a327 := by rw [g_a327]; exact W326.le
          have ne_a316_a327 : a316 ≠ a327 := Nat.ne_of_lt (Nat.lt_of_lt_of_le ACH.lt (Nat.le_of_eq g_a327.symm))
          have A_a316_328 := ACH.ext E328
          have ST_328 := ST_326.ext E328
          have F_value_a327 : Fld Z h328 a327 "java/lang/String" "value" "[B" .null := D_a327 (Or.inr (ow hw 21 rfl)) (ty := (.array .byte)) (by decide)
          have F_coder_a327 : Fld Z h328 a327 "java/lang/String" "coder" "B" (.int (0 : Int32)) := D_a327 (Or.inr (ow hw 22 rfl)) (ty := .byte) (by decide)
          refine o_dup W328 at_166 rfl (pc' := 167) rfl ?_
          refine o_aload W328 at_167 (v := (.ref a316)) rfl rfl (pc' := 169) rfl ?_
          refine o_callC W328 (rm2_3 l Z a0 hw a327 a316 h328 n0 W328.le cs fm ST_328 hcs r303 r304 r305 q303 q304 q305 A_a316_328 X_a327 F_value_a327 F_coder_a327 b_a327) rfl (ow hw 9 rfl) (ow hw 10 rfl) (ow hw 8 rfl) (ow hw 11 rfl) (by decide) (argsL := [(.ref a316)]) (S := [(.ref a327)]) (lenOf own_pd19 rfl) rfl rfl rfl (wt := 1) rfl (by decide) (by decide) (by decide) (by decide) (kk' := 8) rfl (nn' := 23) rfl at_169 (pc' := 172) rfl ?_
          intro T329 h329 W329 q329 z329
          obtain ⟨XS, KS, ST_329, rb, FV, q329⟩ := q329
          rcases q329 with ⟨hall, FC, AR⟩ | ⟨FC, AR⟩
          · refine o_astore W329 (L' := #[.val (.int x0), .val (.int x1), .val (.int x2), .val (.int x3), .val (.int x4), .val (.int (3 : Int32)), .val (.int r303), .val (.int r304), .val (.int r305), .val (.int r306), .val (.ref a307), .val (.ref a309), .val (.ref a312), .val (.ref a316), .val (.ref a321), .val (.ref a316), .val (.ref a327), .unset]) at_172 rfl rfl (pc' := 174) rfl ?_
            refine o_iconst W329 (v := (1 : Int32)) at_174 rfl (pc' := 175) rfl ?_
            refine o_istore W329 (L' := #[.val (.int x0), .val (.int x1), .val (.int x2), .val (.int x3), .val (.int x4), .val (.int (3 : Int32)), .val (.int r303), .val (.int r304), .val (.int r305), .val (.int r306), .val (.ref a307), .val (.ref a309), .val (.ref a312), .val (.ref a316), .val (.ref a321), .val (.ref a316), .val (.ref a327), .val (.int (1 : Int32))]) at_175 rfl (pc' := 177) rfl ?_
            refine o_iload W329 at_177 (v := (3 : Int32)) rfl (pc' := 179) rfl ?_
            refine o_if_le W329 at_179 (by decide) (pq := 193) (by decide) (pc' := 182) rfl (fun hc179 => ?_) (fun hc179 => ?_)
            · exact absurd hc179 (by decide)
            · refine o_iload W329 at_182 (v := r303) rfl (pc' := 184) rfl ?_
              refine o_callSI W329 (rm18 l Z a0 hw r303 h329 n0 W329.le) (ow hw 81 rfl) (ow hw 82 rfl) (ow hw 2 rfl) (ow hw 83 rfl) (by decide) (argsL := [(.int r303)]) (S := []) (lenOf own_pd20 rfl) rfl rfl rfl (wt := 0) rfl (by decide) (by decide) (by decide) (by decide) (kk' := 8) rfl (nn' := 23) rfl at_184 (pc' := 187) rfl ?_
              intro r330 T330 h330 W330 q330 z330
              obtain ⟨q330, rfl⟩ := q330
              refine OF.join (fun j331 : Int32 => (j331.toInt = 1 ∧ ¬ (r303.toInt = 42 ∨ r303.toInt = 63)) ∨ (j331.toInt = 0 ∧ (r303.toInt = 42 ∨ r303.toInt = 63))) (fun _ => T330) (fun j331 => mkF m 193 #[.val (.int x0), .val (.int x1), .val (.int x2), .val (.int x3), .val (.int x4), .val (.int (3 : Int32)), .val (.int r303), .val (.int r304), .val (.int r305), .val (.int r306), .val (.ref a307), .val (.ref a309), .val (.ref a312), .val (.ref a316), .val (.ref a321), .val (.ref a316), .val (.ref a327), .val (.int j331)] []) (fun j331 hj331 => ?_) (fun k_j331 => ?_)
              · refine o_iload W330 at_193 (v := (3 : Int32)) rfl (pc' := 195) rfl ?_
                refine o_iconst W330 (v := (1 : Int32)) at_195 rfl (pc' := 196) rfl ?_
                refine o_icmp_le W330 at_196 (by decide) (pq := 210) (by decide) (pc' := 199) rfl (fun hc196 => ?_) (fun hc196 => ?_)
                · exact absurd hc196 (by decide)
                · refine o_iload W330 at_199 (v := r304) rfl (pc' := 201) rfl ?_
                  refine o_callSI W330 (rm18 l Z a0 hw r304 h329 n0 W330.le) (ow hw 81 rfl) (ow hw 82 rfl) (ow hw 2 rfl) (ow hw 83 rfl) (by decide) (argsL := [(.int r304)]) (S := []) (lenOf own_pd20 rfl) rfl rfl rfl (wt := 0) rfl (by decide) (by decide) (by decide) (by decide) (kk' := 8) rfl (nn' := 23) rfl at_201 (pc' := 204) rfl ?_
                  intro r332 T332 h332 W332 q332 z332
                  obtain ⟨q332, rfl⟩ := q332
                  refine OF.join (fun j333 : Int32 => (j333.toInt = 1 ∧ ¬ (r303.toInt = 42 ∨ r303.toInt = 63 ∨ r304.toInt = 42 ∨ r304.toInt = 63)) ∨ (j333.toInt = 0 ∧ (r303.toInt = 42 ∨ r303.toInt = 63 ∨ r304.toInt = 42 ∨ r304.toInt = 63))) (fun _ => T332) (fun j333 => mkF m 210 #[.val (.int x0), .val (.int x1), .val (.int x2), .val (.int x3), .val (.int x4), .val (.int (3 : Int32)), .val (.int r303), .val (.int r304), .val (.int r305), .val (.int r306), .val (.ref a307), .val (.ref a309), .val (.ref a312), .val (.ref a316), .val (.ref a321), .val (.ref a316), .val (.ref a327), .val (.int j333)] []) (fun j333 hj333 => ?_) (fun k_j333 => ?_)
                  · refine o_iload W332 at_210 (v := (3 : Int32)) rfl (pc' := 212) rfl ?_
                    refine o_iconst W332 (v := (2 : Int32)) at_212 rfl (pc' := 213) rfl ?_
                    refine o_icmp_le W332 at_213 (by decide) (pq := 227) (by decide) (pc' := 216) rfl (fun hc213 => ?_) (fun hc213 => ?_)
                    · exact absurd hc213 (by decide)
                    · refine o_iload W332 at_216 (v := r305) rfl (pc' := 218) rfl ?_
                      refine o_callSI W332 (rm18 l Z a0 hw r305 h329 n0 W332.le) (ow hw 81 rfl) (ow hw 82 rfl) (ow hw 2 rfl) (ow hw 83 rfl) (by decide) (argsL := [(.int r305)]) (S := []) (lenOf own_pd20 rfl) rfl rfl rfl (wt := 0) rfl (by decide) (by decide) (by decide) (by decide) (kk' := 8) rfl (nn' := 23) rfl at_218 (pc' := 221) rfl ?_
                      intro r334 T334 h334 W334 q334 z334
                      obtain ⟨q334, rfl⟩ := q334
                      refine OF.join (fun j335 : Int32 => (j335.toInt = 1 ∧ ¬ (r303.toInt = 42 ∨ r303.toInt = 63 ∨ r304.toInt = 42 ∨ r304.toInt = 63 ∨ r305.toInt = 42 ∨ r305.toInt = 63)) ∨ (j335.toInt = 0 ∧ (r303.toInt = 42 ∨ r303.toInt = 63 ∨ r304.toInt = 42 ∨ r304.toInt = 63 ∨ r305.toInt = 42 ∨ r305.toInt = 63))) (fun _ => T334) (fun j335 => mkF m 227 #[.val (.int x0), .val (.int x1), .val (.int x2), .val (.int x3), .val (.int x4), .val (.int (3 : Int32)), .val (.int r303), .val (.int r304), .val (.int r305), .val (.int r306), .val (.ref a307), .val (.ref a309), .val (.ref a312), .val (.ref a316), .val (.ref a321), .val (.ref a316), .val (.ref a327), .val (.int j335)] []) (fun j335 hj335 => ?_) (fun k_j335 => ?_)
                      · refine o_iload W334 at_227 (v := (3 : Int32)) rfl (pc' := 229) rfl ?_
                        refine o_iconst W334 (v := (3 : Int32)) at_229 rfl (pc' := 230) rfl ?_
                        refine o_icmp_le W334 at_230 (by decide) (pq := 244) (by decide) (pc' := 233) rfl (fun hc230 => ?_) (fun hc230 => ?_)
                        · refine o_aload W334 at_244 (v := (.ref a327)) rfl rfl (pc' := 246) rfl ?_
                          refine o_callSI W334 (rm5_3L l Z a0 hw a327 h329 n0 W334.le cs fm ST_329 hcs hfm r303 r304 r305 q303 q304 q305 hall rb XS FV FC AR) (ow hw 27 rfl) (ow hw 28 rfl) (ow hw 29 rfl) (ow hw 30 rfl) (by decide) (argsL := [(.ref a327)]) (S := []) (lenOf own_pd21 rfl) rfl rfl rfl (wt := 0) rfl (by decide) (by decide) (by decide) (by decide) (kk' := 8) rfl (nn' := 23) rfl at_246 (pc' := 249) rfl ?_
                          intro r336 T336 h336 W336 q336 z336
                          obtain ⟨q336, rfl⟩ := q336
                          refine o_iload W336 at_249 (v := j335) rfl (pc' := 251) rfl ?_
                          refine o_icmp_ne W336 at_251 (by decide) (pq := 258) (by decide) (pc' := 254) rfl (fun hc251 => ?_) (fun hc251 => ?_)
                          · exfalso
                            have c0 : (0 : Int32).toInt = 0 := rfl
                            have c1 : (1 : Int32).toInt = 1 := rfl
                            rcases q336 with ⟨rfl, u⟩ | ⟨rfl, u⟩ <;> omega
                          · refine o_iconst W336 (v := (1 : Int32)) at_254 rfl (pc' := 255) rfl ?_
                            refine o_goto W336 at_255 (by decide) (pq := 259) (by decide) ?_
                            refine o_retN W336 (t := .boolean) rfl (by simp) at_259 (by decide) (by decide) ?_
                            exact rfl
                        · exact absurd hc230 (by decide)
                      refine o_if_eq W334 at_221 (by decide) (pq := 227) (by decide) (pc' := 224) rfl (fun hc221 => ?_) (fun hc221 => ?_)
                      · exact k_j335 j333 (by have c0 : (0 : Int32).toInt = 0 := rfl; have c1 : (1 : Int32).toInt = 1 := rfl; rcases q334 with ⟨rfl, u⟩ | ⟨rfl, u⟩ <;> omega)
                      · refine o_iconst W334 (v := (0 : Int32)) at_224 rfl (pc' := 225) rfl ?_
                        refine o_istore W334 (L' := #[.val (.int x0), .val (.int x1), .val (.int x2), .val (.int x3), .val (.int x4), .val (.int (3 : Int32)), .val (.int r303), .val (.int r304), .val (.int r305), .val (.int r306), .val (.ref a307), .val (.ref a309), .val (.ref a312), .val (.ref a316), .val (.ref a321), .val (.ref a316), .val (.ref a327), .val (.int (0 : Int32))]) at_225 rfl (pc' := 227) rfl ?_
                        exact k_j335 (0 : Int32) (by have c0 : (0 : Int32).toInt = 0 := rfl; have c1 : (1 : Int32).toInt = 1 := rfl; rcases q334 with ⟨rfl, u⟩ | ⟨rfl, u⟩ <;> omega)
                  refine o_if_eq W332 at_204 (by decide) (pq := 210) (by decide) (pc' := 207) rfl (fun hc204 => ?_) (fun hc204 => ?_)
                  · exact k_j333 j331 (by have c0 : (0 : Int32).toInt = 0 := rfl; have c1 : (1 : Int32).toInt = 1 := rfl; rcases q332 with ⟨rfl, u⟩ | ⟨rfl, u⟩ <;> omega)
                  · refine o_iconst W332 (v := (0 : Int32)) at_207 rfl (pc' := 208) rfl ?_
                    refine o_istore W332 (L' := #[.val (.int x0), .val (.int x1), .val (.int x2), .val (.int x3), .val (.int x4), .val (.int (3 : Int32)), .val (.int r303), .val (.int r304), .val (.int r305), .val (.int r306), .val (.ref a307), .val (.ref a309), .val (.ref a312), .val (.ref a316), .val (.ref a321), .val (.ref a316), .val (.ref a327), .val (.int (0 : Int32))]) at_208 rfl (pc' := 210) rfl ?_
                    exact k_j333 (0 : Int32) (by have c0 : (0 : Int32).toInt = 0 := rfl; have c1 : (1 : Int32).toInt = 1 := rfl; rcases q332 with ⟨rfl, u⟩ | ⟨rfl, u⟩ <;> omega)
              refine o_if_eq W330 at_187 (by decide) (pq := 193) (by decide) (pc' := 190) rfl (fun hc187 => ?_) (fun hc187 => ?_)
              · exact k_j331 (1 : Int32) (by have c0 : (0 : Int32).toInt = 0 := rfl; have c1 : (1 : Int32).toInt = 1 := rfl; rcases q330 with ⟨rfl, u⟩ | ⟨rfl, u⟩ <;> omega)
              · refine o_iconst W330 (v := (0 : Int32)) at_190 rfl (pc' := 191) rfl ?_
                refine o_istore W330 (L' := #[.val (.int x0), .val (.int x1), .val (.int x2), .val (.int x3), .val (.int x4), .val (.int (3 : Int32)), .val (.int r303), .val (.int r304), .val (.int r305), .val (.int r306), .val (.ref a307), .val (.ref a309), .val (.ref a312), .val (.ref a316), .val (.ref a321), .val (.ref a316), .val (.ref a327), .val (.int (0 : Int32))]) at_191 rfl (pc' := 193) rfl ?_
                exact k_j331 (0 : Int32) (by have c0 : (0 : Int32).toInt = 0 := rfl; have c1 : (1 : Int32).toInt = 1 := rfl; rcases q330 with ⟨rfl, u⟩ | ⟨rfl, u⟩ <;> omega)
          · refine o_astore W329 (L' := #[.val (.int x0), .val (.int x1), .val (.int x2), .val (.int x3), .val (.int x4), .val (.int (3 : Int32)), .val (.int r303), .val (.int r304), .val (.int r305), .val (.int r306), .val (.ref a307), .val (.ref a309), .val (.ref a312), .val (.ref a316), .val (.ref a321), .val (.ref a316), .val (.ref a327), .unset]) at_172 rfl rfl (pc' := 174) rfl ?_
            refine o_iconst W329 (v := (1 : Int32)) at_174 rfl (pc' := 175) rfl ?_
            refine o_istore W329 (L' := #[.val (.int x0), .val (.int x1), .val (.int x2), .val (.int x3), .val (.int x4), .val (.int (3 : Int32)), .val (.int r303), .val (.int r304), .val (.int r305), .val (.int r306), .val (.ref a307), .val (.ref a309), .val (.ref a312), .val (.ref a316), .val (.ref a321), .val (.ref a316), .val (.ref a327), .val (.int (1 : Int32))]) at_175 rfl (pc' := 177) rfl ?_
            refine o_iload W329 at_177 (v := (3 : Int32)) rfl (pc' := 179) rfl ?_
            refine o_if_le W329 at_179 (by decide) (pq := 193) (by decide) (pc' := 182) rfl (fun hc179 => ?_) (fun hc179 => ?_)
            · exact absurd hc179 (by decide)
            · refine o_iload W329 at_182 (v := r303) rfl (pc' := 184) rfl ?_
              refine o_callSI W329 (rm18 l Z a0 hw r303 h329 n0 W329.le) (ow hw 81 rfl) (ow hw 82 rfl) (ow hw 2 rfl) (ow hw 83 rfl) (by decide) (argsL := [(.int r303)]) (S := []) (lenOf own_pd20 rfl) rfl rfl rfl (wt := 0) rfl (by decide) (by decide) (by decide) (by decide) (kk' := 8) rfl (nn' := 23) rfl at_184 (pc' := 187) rfl ?_
              intro r337 T337 h337 W337 q337 z337
              obtain ⟨q337, rfl⟩ := q337
              refine OF.join (fun j338 : Int32 => (j338.toInt = 1 ∧ ¬ (r303.toInt = 42 ∨ r303.toInt = 63)) ∨ (j338.toInt = 0 ∧ (r303.toInt = 42 ∨ r303.toInt = 63))) (fun _ => T337) (fun j338 => mkF m 193 #[.val (.int x0), .val (.int x1), .val (.int x2), .val (.int x3), .val (.int x4), .val (.int (3 : Int32)), .val (.int r303), .val (.int r304), .val (.int r305), .val (.int r306), .val (.ref a307), .val (.ref a309), .val (.ref a312), .val (.ref a316), .val (.ref a321), .val (.ref a316), .val (.ref a327), .val (.int j338)] []) (fun j338 hj338 => ?_) (fun k_j338 => ?_)
              · refine o_iload W337 at_193 (v := (3 : Int32)) rfl (pc' := 195) rfl ?_
                refine o_iconst W337 (v := (1 : Int32)) at_195 rfl (pc' := 196) rfl ?_
                refine o_icmp_le W337 at_196 (by decide) (pq := 210) (by decide) (pc' := 199) rfl (fun hc196 => ?_) (fun hc196 => ?_)
                · exact absurd hc196 (by decide)
                · refine o_iload W337 at_199 (v := r304) rfl (pc' := 201) rfl ?_
                  refine o_callSI W337 (rm18 l Z a0 hw r304 h329 n0 W337.le) (ow hw 81 rfl) (ow hw 82 rfl) (ow hw 2 rfl) (ow hw 83 rfl) (by decide) (argsL := [(.int r304)]) (S := []) (lenOf own_pd20 rfl) rfl rfl rfl (wt := 0) rfl (by decide) (by decide) (by decide) (by decide) (kk' := 8) rfl (nn' := 23) rfl at_201 (pc' := 204) rfl ?_
                  intro r339 T339 h339 W339 q339 z339
                  obtain ⟨q339, rfl⟩ := q339
                  refine OF.join (fun j340 : Int32 => (j340.toInt = 1 ∧ ¬ (r303.toInt = 42 ∨ r303.toInt = 63 ∨ r304.toInt = 42 ∨ r304.toInt = 63)) ∨ (j340.toInt = 0 ∧ (r303.toInt = 42 ∨ r303.toInt = 63 ∨ r304.toInt = 42 ∨ r304.toInt = 63))) (fun _ => T339) (fun j340 => mkF m 210 #[.val (.int x0), .val (.int x1), .val (.int x2), .val (.int x3), .val (.int x4), .val (.int (3 : Int32)), .val (.int r303), .val (.int r304), .val (.int r305), .val (.int r306), .val (.ref a307), .val (.ref a309), .val (.ref a312), .val (.ref a316), .val (.ref a321), .val (.ref a316), .val (.ref a327), .val (.int j340)] []) (fun j340 hj340 => ?_) (fun k_j340 => ?_)
                  · refine o_iload W339 at_210 (v := (3 : Int32)) rfl (pc' := 212) rfl ?_
                    refine o_iconst W339 (v := (2 : Int32)) at_212 rfl (pc' := 213) rfl ?_
                    refine o_icmp_le W339 at_213 (by decide) (pq := 227) (by decide) (pc' := 216) rfl (fun hc213 => ?_) (fun hc213 => ?_)
                    · exact absurd hc213 (by decide)
                    · refine o_iload W339 at_216 (v := r305) rfl (pc' := 218) rfl ?_
                      refine o_callSI W339 (rm18 l Z a0 hw r305 h329 n0 W339.le) (ow hw 81 rfl) (ow hw 82 rfl) (ow hw 2 rfl) (ow hw 83 rfl) (by decide) (argsL := [(.int r305)]) (S := []) (lenOf own_pd20 rfl) rfl rfl rfl (wt := 0) rfl (by decide) (by decide) (by decide) (by decide) (kk' := 8) rfl (nn' := 23) rfl at_218 (pc' := 221) rfl ?_
                      intro r341 T341 h341 W341 q341 z341
                      obtain ⟨q341, rfl⟩ := q341
                      refine OF.join (fun j342 : Int32 => (j342.toInt = 1 ∧ ¬ (r303.toInt = 42 ∨ r303.toInt = 63 ∨ r304.toInt = 42 ∨ r304.toInt = 63 ∨ r305.toInt = 42 ∨ r305.toInt = 63)) ∨ (j342.toInt = 0 ∧ (r303.toInt = 42 ∨ r303.toInt = 63 ∨ r304.toInt = 42 ∨ r304.toInt = 63 ∨ r305.toInt = 42 ∨ r305.toInt = 63))) (fun _ => T341) (fun j342 => mkF m 227 #[.val (.int x0), .val (.int x1), .val (.int x2), .val (.int x3), .val (.int x4), .val (.int (3 : Int32)), .val (.int r303), .val (.int r304), .val (.int r305), .val (.int r306), .val (.ref a307), .val (.ref a309), .val (.ref a312), .val (.ref a316), .val (.ref a321), .val (.ref a316), .val (.ref a327), .val (.int j342)] []) (fun j342 hj342 => ?_) (fun k_j342 => ?_)
                      · refine o_iload W341 at_227 (v := (3 : Int32)) rfl (pc' := 229) rfl ?_
                        refine o_iconst W341 (v := (3 : Int32)) at_229 rfl (pc' := 230) rfl ?_
                        refine o_icmp_le W341 at_230 (by decide) (pq := 244) (by decide) (pc' := 233) rfl (fun hc230 => ?_) (fun hc230 => ?_)
                        · refine o_aload W341 at_244 (v := (.ref a327)) rfl rfl (pc' := 246) rfl ?_
                          refine o_callSI W341 (rm5_3U l Z a0 hw a327 h329 n0 W341.le cs fm ST_329 hcs hfm r303 r304 r305 q303 q304 q305 rb XS FV FC AR) (ow hw 27 rfl) (ow hw 28 rfl) (ow hw 29 rfl) (ow hw 30 rfl) (by decide) (argsL := [(.ref a327)]) (S := []) (lenOf own_pd21 rfl) rfl rfl rfl (wt := 0) rfl (by decide) (by decide) (by decide) (by decide) (kk' := 8) rfl (nn' := 23) rfl at_246 (pc' := 249) rfl ?_
                          intro r343 T343 h343 W343 q343 z343
                          obtain ⟨q343, rfl⟩ := q343
                          refine o_iload W343 at_249 (v := j342) rfl (pc' := 251) rfl ?_
                          refine o_icmp_ne W343 at_251 (by decide) (pq := 258) (by decide) (pc' := 254) rfl (fun hc251 => ?_) (fun hc251 => ?_)
                          · exfalso
                            have c0 : (0 : Int32).toInt = 0 := rfl
                            have c1 : (1 : Int32).toInt = 1 := rfl
                            rcases q343 with ⟨rfl, u⟩ | ⟨rfl, u⟩ <;> omega
                          · refine o_iconst W343 (v := (1 : Int32)) at_254 rfl (pc' := 255) rfl ?_
                            refine o_goto W343 at_255 (by decide) (pq := 259) (by decide) ?_
                            refine o_retN W343 (t := .boolean) rfl (by simp) at_259 (by decide) (by decide) ?_
                            exact rfl
                        · exact absurd hc230 (by decide)
                      refine o_if_eq W341 at_221 (by decide) (pq := 227) (by decide) (pc' := 224) rfl (fun hc221 => ?_) (fun hc221 => ?_)
                      · exact k_j342 j340 (by have c0 : (0 : Int32).toInt = 0 := rfl; have c1 : (1 : Int32).toInt = 1 := rfl; rcases q341 with ⟨rfl, u⟩ | ⟨rfl, u⟩ <;> omega)
                      · refine o_iconst W341 (v := (0 : Int32)) at_224 rfl (pc' := 225) rfl ?_
                        refine o_istore W341 (L' := #[.val (.int x0), .val (.int x1), .val (.int x2), .val (.int x3), .val (.int x4), .val (.int (3 : Int32)), .val (.int r303), .val (.int r304), .val (.int r305), .val (.int r306), .val (.ref a307), .val (.ref a309), .val (.ref a312), .val (.ref a316), .val (.ref a321), .val (.ref a316), .val (.ref a327), .val (.int (0 : Int32))]) at_225 rfl (pc' := 227) rfl ?_
                        exact k_j342 (0 : Int32) (by have c0 : (0 : Int32).toInt = 0 := rfl; have c1 : (1 : Int32).toInt = 1 := rfl; rcases q341 with ⟨rfl, u⟩ | ⟨rfl, u⟩ <;> omega)
                  refine o_if_eq W339 at_204 (by decide) (pq := 210) (by decide) (pc' := 207) rfl (fun hc204 => ?_) (fun hc204 => ?_)
                  · exact k_j340 j338 (by have c0 : (0 : Int32).toInt = 0 := rfl; have c1 : (1 : Int32).toInt = 1 := rfl; rcases q339 with ⟨rfl, u⟩ | ⟨rfl, u⟩ <;> omega)
                  · refine o_iconst W339 (v := (0 : Int32)) at_207 rfl (pc' := 208) rfl ?_
                    refine o_istore W339 (L' := #[.val (.int x0), .val (.int x1), .val (.int x2), .val (.int x3), .val (.int x4), .val (.int (3 : Int32)), .val (.int r303), .val (.int r304), .val (.int r305), .val (.int r306), .val (.ref a307), .val (.ref a309), .val (.ref a312), .val (.ref a316), .val (.ref a321), .val (.ref a316), .val (.ref a327), .val (.int (0 : Int32))]) at_208 rfl (pc' := 210) rfl ?_
                    exact k_j340 (0 : Int32) (by have c0 : (0 : Int32).toInt = 0 := rfl; have c1 : (1 : Int32).toInt = 1 := rfl; rcases q339 with ⟨rfl, u⟩ | ⟨rfl, u⟩ <;> omega)
              refine o_if_eq W337 at_187 (by decide) (pq := 193) (by decide) (pc' := 190) rfl (fun hc187 => ?_) (fun hc187 => ?_)
              · exact k_j338 (1 : Int32) (by have c0 : (0 : Int32).toInt = 0 := rfl; have c1 : (1 : Int32).toInt = 1 := rfl; rcases q337 with ⟨rfl, u⟩ | ⟨rfl, u⟩ <;> omega)
              · refine o_iconst W337 (v := (0 : Int32)) at_190 rfl (pc' := 191) rfl ?_
                refine o_istore W337 (L' := #[.val (.int x0), .val (.int x1), .val (.int x2), .val (.int x3), .val (.int x4), .val (.int (3 : Int32)), .val (.int r303), .val (.int r304), .val (.int r305), .val (.int r306), .val (.ref a307), .val (.ref a309), .val (.ref a312), .val (.ref a316), .val (.ref a321), .val (.ref a316), .val (.ref a327), .val (.int (0 : Int32))]) at_191 rfl (pc' := 193) rfl ?_
                exact k_j338 (0 : Int32) (by have c0 : (0 : Int32).toInt = 0 := rfl; have c1 : (1 : Int32).toInt = 1 := rfl; rcases q337 with ⟨rfl, u⟩ | ⟨rfl, u⟩ <;> omega)
      · exact absurd hc136 (by decide)
    · exact absurd hc123 (by decide)
  · exact absurd hc110 (by decide)
theorem own_ef16_4 (m : MethodId) (z0 : Addr) (z1 : Int32) (z2 : Addr) (z3 : Int32) (z4 : Int32) : entryFrame m #[(.ref z0), (.int z1), (.ref z2), (.int z3), (.int z4)] 7 = mkF m 0 #[.val (.ref z0), .val (.int z1), .val (.ref z2), .val (.int z3), .val (.int z4), .unset, .unset] [] := by first | (simp [entryFrame, mkF, argsToLocals, Value.category]; done) | rfl
set_option maxRecDepth 65536 in
set_option maxHeartbeats 4000000 in
theorem rm16_4 (l : Launch) (Z : State) (a0 : Array Value) (hw : ∀ d ∈ tables_1, d.before a0 Z = true) (b0 b1 : Addr) (h0 : Heap) (n0 : Nat) (Z0 : n0 ≤ h0.size) (cs : Int32) (fm : Value) (ST : OSt Z h0 cs fm) (k0 k1 k2 k3 : Int32) (hk0 : 0 ≤ k0.toInt ∧ k0.toInt ≤ 65535) (hk1 : 0 ≤ k1.toInt ∧ k1.toInt ≤ 65535) (hk2 : 0 ≤ k2.toInt ∧ k2.toInt ≤ 65535) (hk3 : 0 ≤ k3.toInt ∧ k3.toInt ≤ 65535) (A0 : OA Z h0 b0 .char [k0, k1, k2, k3]) (A1 : OA Z h0 b1 .byte [0, 0, 0, 0]) (g1 : n0 ≤ b1) (ne_b0_b1 : b0 ≠ b1) :
    OCon l Z (⟨"java/lang/StringUTF16", "compress", "([CI[BII)I"⟩ : MethodName) jdk_52_method_21_code 7 (some .int) [] ({ frames := 0, cells := 0, slots := 0, locals := 0 } : Room) #[(.ref b0), (.int (0 : Int32)), (.ref b1), (.int (0 : Int32)), (.int (4 : Int32))] h0 n0 (QI fun r h' => Keep h0 h' [b1] ∧ OSt Z h' cs fm ∧ ((r = (0 : Int32) ∧ 255 < k0.toInt) ∨ (r = (1 : Int32) ∧ 255 < k1.toInt) ∨ (r = (2 : Int32) ∧ 255 < k2.toInt) ∨ (r = (3 : Int32) ∧ 255 < k3.toInt) ∨ (r = (4 : Int32) ∧ (k0.toInt ≤ 255 ∧ k1.toInt ≤ 255 ∧ k2.toInt ≤ 255 ∧ k3.toInt ≤ 255) ∧ OA Z h' b1 .byte [own_b k0, own_b k1, own_b k2, own_b k3]))) := by
  refine OCon.mk (plainFor_of_name own_pn2) Z0 ?_
  intro p e s m below meth cd s₁ W0
  refine OF.cast (own_ef16_4 m b0 (0 : Int32) b1 (0 : Int32) (4 : Int32)) ?_
  have c_0___Int32_ : (0 : Int32).toInt = 0 := rfl
  have c_1___Int32_ : (1 : Int32).toInt = 1 := rfl
  have c_2___Int32_ : (2 : Int32).toInt = 2 := rfl
  have c_255___Int32_ : (255 : Int32).toInt = 255 := rfl
  have c_3___Int32_ : (3 : Int32).toInt = 3 := rfl
  have c_4___Int32_ : (4 : Int32).toInt = 4 := rfl
  refine o_iconst W0 (v := (0 : Int32)) own_d16_0 rfl (pc' := 1) rfl ?_
  refine o_istore W0 (L' := #[.val (.ref b0), .val (.int (0 : Int32)), .val (.ref b1), .val (.int (0 : Int32)), .val (.int (4 : Int32)), .val (.int (0 : Int32)), .unset]) own_d16_1 rfl (pc' := 3) rfl ?_
  refine o_iload W0 own_d16_3 (v := (0 : Int32)) rfl (pc' := 5) rfl ?_
  refine o_iload W0 own_d16_5 (v := (4 : Int32)) rfl (pc' := 7) rfl ?_
  refine o_icmp_ge W0 own_d16_7 (by decide) (pq := 44) (by decide) (pc' := 10) rfl (fun hc7 => ?_) (fun hc7 => ?_)
  · exact absurd hc7 (by decide)
  · refine o_aloadN W0 own_d16_10 (v := (.ref b0)) rfl rfl (pc' := 11) rfl ?_
    refine o_iloadN W0 own_d16_11 (v := (0 : Int32)) rfl (pc' := 12) rfl ?_
    refine o_caload W0 A0 own_d16_12 (pc' := 13) rfl (i := 0) (v := k0) rfl rfl ?_
    refine o_istore W0 (L' := #[.val (.ref b0), .val (.int (0 : Int32)), .val (.ref b1), .val (.int (0 : Int32)), .val (.int (4 : Int32)), .val (.int (0 : Int32)), .val (.int k0)]) own_d16_13 rfl (pc' := 15) rfl ?_
    refine o_iload W0 own_d16_15 (v := k0) rfl (pc' := 17) rfl ?_
    refine o_sipush W0 (v := (255 : Int32)) own_d16_17 rfl (pc' := 20) rfl ?_
    refine o_icmp_le W0 own_d16_20 (by decide) (pq := 26) (by decide) (pc' := 23) rfl (fun hc20 => ?_) (fun hc20 => ?_)
    · refine o_aloadN W0 own_d16_26 (v := (.ref b1)) rfl rfl (pc' := 27) rfl ?_
      refine o_iloadN W0 own_d16_27 (v := (0 : Int32)) rfl (pc' := 28) rfl ?_
      refine o_iload W0 own_d16_28 (v := k0) rfl (pc' := 30) rfl ?_
      refine o_i2b W0 own_d16_30 (pc' := 31) rfl ?_
      refine o_bastore W0 A1 g1 own_d16_31 (pc' := 32) rfl (i := 0) rfl (Nat.le_of_ble_eq_true rfl) ?_
      intro T344 h344 W344 K344 A_b1_344
      have A_b0_344 := A0.keep1 K344 ne_b0_b1
      have ST_344 := ST.keepA A1 K344
      have A_b1_344 : OA Z h344 b1 .byte [((k0.toInt8.toInt32).toInt8.toInt32), 0, 0, 0] := A_b1_344
      have KK_K344 : Keep h0 h344 [b1] := (Keep.refl _ _).trans K344 (fun x hx => Or.inl hx)
      refine o_iinc W344 (x := (0 : Int32)) (L' := #[.val (.ref b0), .val (.int ((0 : Int32) + (1 : Int32))), .val (.ref b1), .val (.int (0 : Int32)), .val (.int (4 : Int32)), .val (.int (0 : Int32)), .val (.int k0)]) own_d16_32 rfl rfl (pc' := 35) rfl ?_
      show OF _ _ _ _ _ _ _ T344 (mkF m 35 #[.val (.ref b0), .val (.int (1 : Int32)), .val (.ref b1), .val (.int (0 : Int32)), .val (.int (4 : Int32)), .val (.int (0 : Int32)), .val (.int k0)] [])
      refine o_iinc W344 (x := (0 : Int32)) (L' := #[.val (.ref b0), .val (.int (1 : Int32)), .val (.ref b1), .val (.int ((0 : Int32) + (1 : Int32))), .val (.int (4 : Int32)), .val (.int (0 : Int32)), .val (.int k0)]) own_d16_35 rfl rfl (pc' := 38) rfl ?_
      show OF _ _ _ _ _ _ _ T344 (mkF m 38 #[.val (.ref b0), .val (.int (1 : Int32)), .val (.ref b1), .val (.int (1 : Int32)), .val (.int (4 : Int32)), .val (.int (0 : Int32)), .val (.int k0)] [])
      refine o_iinc W344 (x := (0 : Int32)) (L' := #[.val (.ref b0), .val (.int (1 : Int32)), .val (.ref b1), .val (.int (1 : Int32)), .val (.int (4 : Int32)), .val (.int ((0 : Int32) + (1 : Int32))), .val (.int k0)]) own_d16_38 rfl rfl (pc' := 41) rfl ?_
      show OF _ _ _ _ _ _ _ T344 (mkF m 41 #[.val (.ref b0), .val (.int (1 : Int32)), .val (.ref b1), .val (.int (1 : Int32)), .val (.int (4 : Int32)), .val (.int (1 : Int32)), .val (.int k0)] [])
      refine o_goto W344 own_d16_41 (by decide) (pq := 3) (by decide) ?_
      refine o_iload W344 own_d16_3 (v := (1 : Int32)) rfl (pc' := 5) rfl ?_
      refine o_iload W344 own_d16_5 (v := (4 : Int32)) rfl (pc' := 7) rfl ?_
      refine o_icmp_ge W344 own_d16_7 (by decide) (pq := 44) (by decide) (pc' := 10) rfl (fun hc7 => ?_) (fun hc7 => ?_)
      · exact absurd hc7 (by decide)
      · refine o_aloadN W344 own_d16_10 (v := (.ref b0)) rfl rfl (pc' := 11) rfl ?_
        refine o_iloadN W344 own_d16_11 (v := (1 : Int32)) rfl (pc' := 12) rfl ?_
        refine o_caload W344 A_b0_344 own_d16_12 (pc' := 13) rfl (i := 1) (v := k1) rfl rfl ?_
        refine o_istore W344 (L' := #[.val (.ref b0), .val (.int (1 : Int32)), .val (.ref b1), .val (.int (1 : Int32)), .val (.int (4 : Int32)), .val (.int (1 : Int32)), .val (.int k1)]) own_d16_13 rfl (pc' := 15) rfl ?_
        refine o_iload W344 own_d16_15 (v := k1) rfl (pc' := 17) rfl ?_
        refine o_sipush W344 (v := (255 : Int32)) own_d16_17 rfl (pc' := 20) rfl ?_
        refine o_icmp_le W344 own_d16_20 (by decide) (pq := 26) (by decide) (pc' := 23) rfl (fun hc20 => ?_) (fun hc20 => ?_)
        · refine o_aloadN W344 own_d16_26 (v := (.ref b1)) rfl rfl (pc' := 27) rfl ?_
          refine o_iloadN W344 own_d16_27 (v := (1 : Int32)) rfl (pc' := 28) rfl ?_
          refine o_iload W344 own_d16_28 (v := k1) rfl (pc' := 30) rfl ?_
          refine o_i2b W344 own_d16_30 (pc' := 31) rfl ?_
          refine o_bastore W344 A_b1_344 g1 own_d16_31 (pc' := 32) rfl (i := 1) rfl (Nat.le_of_ble_eq_true rfl) ?_
          intro T345 h345 W345 K345 A_b1_345
          have A_b0_345 := A_b0_344.keep1 K345 ne_b0_b1
          have ST_345 := ST_344.keepA A_b1_344 K345
          have A_b1_345 : OA Z h345 b1 .byte [((k0.toInt8.toInt32).toInt8.toInt32), ((k1.toInt8.toInt32).toInt8.toInt32), 0, 0] := A_b1_345
          have KK_K345 : Keep h0 h345 [b1] := (KK_K344).trans K345 (fun x hx => Or.inl hx)
          refine o_iinc W345 (x := (1 : Int32)) (L' := #[.val (.ref b0), .val (.int ((1 : Int32) + (1 : Int32))), .val (.ref b1), .val (.int (1 : Int32)), .val (.int (4 : Int32)), .val (.int (1 : Int32)), .val (.int k1)]) own_d16_32 rfl rfl (pc' := 35) rfl ?_
          show OF _ _ _ _ _ _ _ T345 (mkF m 35 #[.val (.ref b0), .val (.int (2 : Int32)), .val (.ref b1), .val (.int (1 : Int32)), .val (.int (4 : Int32)), .val (.int (1 : Int32)), .val (.int k1)] [])
          refine o_iinc W345 (x := (1 : Int32)) (L' := #[.val (.ref b0), .val (.int (2 : Int32)), .val (.ref b1), .val (.int ((1 : Int32) + (1 : Int32))), .val (.int (4 : Int32)), .val (.int (1 : Int32)), .val (.int k1)]) own_d16_35 rfl rfl (pc' := 38) rfl ?_
          show OF _ _ _ _ _ _ _ T345 (mkF m 38 #[.val (.ref b0), .val (.int (2 : Int32)), .val (.ref b1), .val (.int (2 : Int32)), .val (.int (4 : Int32)), .val (.int (1 : Int32)), .val (.int k1)] [])
          refine o_iinc W345 (x := (1 : Int32)) (L' := #[.val (.ref b0), .val (.int (2 : Int32)), .val (.ref b1), .val (.int (2 : Int32)), .val (.int (4 : Int32)), .val (.int ((1 : Int32) + (1 : Int32))), .val (.int k1)]) own_d16_38 rfl rfl (pc' := 41) rfl ?_
          show OF _ _ _ _ _ _ _ T345 (mkF m 41 #[.val (.ref b0), .val (.int (2 : Int32)), .val (.ref b1), .val (.int (2 : Int32)), .val (.int (4 : Int32)), .val (.int (2 : Int32)), .val (.int k1)] [])
          refine o_goto W345 own_d16_41 (by decide) (pq := 3) (by decide) ?_
          refine o_iload W345 own_d16_3 (v := (2 : Int32)) rfl (pc' := 5) rfl ?_
          refine o_iload W345 own_d16_5 (v := (4 : Int32)) rfl (pc' := 7) rfl ?_
          refine o_icmp_ge W345 own_d16_7 (by decide) (pq := 44) (by decide) (pc' := 10) rfl (fun hc7 => ?_) (fun hc7 => ?_)
          · exact absurd hc7 (by decide)
          · refine o_aloadN W345 own_d16_10 (v := (.ref b0)) rfl rfl (pc' := 11) rfl ?_
            refine o_iloadN W345 own_d16_11 (v := (2 : Int32)) rfl (pc' := 12) rfl ?_
            refine o_caload W345 A_b0_345 own_d16_12 (pc' := 13) rfl (i := 2) (v := k2) rfl rfl ?_
            refine o_istore W345 (L' := #[.val (.ref b0), .val (.int (2 : Int32)), .val (.ref b1), .val (.int (2 : Int32)), .val (.int (4 : Int32)), .val (.int (2 : Int32)), .val (.int k2)]) own_d16_13 rfl (pc' := 15) rfl ?_
            refine o_iload W345 own_d16_15 (v := k2) rfl (pc' := 17) rfl ?_
            refine o_sipush W345 (v := (255 : Int32)) own_d16_17 rfl (pc' := 20) rfl ?_
            refine o_icmp_le W345 own_d16_20 (by decide) (pq := 26) (by decide) (pc' := 23) rfl (fun hc20 => ?_) (fun hc20 => ?_)
            · refine o_aloadN W345 own_d16_26 (v := (.ref b1)) rfl rfl (pc' := 27) rfl ?_
              refine o_iloadN W345 own_d16_27 (v := (2 : Int32)) rfl (pc' := 28) rfl ?_
              refine o_iload W345 own_d16_28 (v := k2) rfl (pc' := 30) rfl ?_
              refine o_i2b W345 own_d16_30 (pc' := 31) rfl ?_
              refine o_bastore W345 A_b1_345 g1 own_d16_31 (pc' := 32) rfl (i := 2) rfl (Nat.le_of_ble_eq_true rfl) ?_
              intro T346 h346 W346 K346 A_b1_346
              have A_b0_346 := A_b0_345.keep1 K346 ne_b0_b1
              have ST_346 := ST_345.keepA A_b1_345 K346
              have A_b1_346 : OA Z h346 b1 .byte [((k0.toInt8.toInt32).toInt8.toInt32), ((k1.toInt8.toInt32).toInt8.toInt32), ((k2.toInt8.toInt32).toInt8.toInt32), 0] := A_b1_346
              have KK_K346 : Keep h0 h346 [b1] := (KK_K345).trans K346 (fun x hx => Or.inl hx)
              refine o_iinc W346 (x := (2 : Int32)) (L' := #[.val (.ref b0), .val (.int ((2 : Int32) + (1 : Int32))), .val (.ref b1), .val (.int (2 : Int32)), .val (.int (4 : Int32)), .val (.int (2 : Int32)), .val (.int k2)]) own_d16_32 rfl rfl (pc' := 35) rfl ?_
              show OF _ _ _ _ _ _ _ T346 (mkF m 35 #[.val (.ref b0), .val (.int (3 : Int32)), .val (.ref b1), .val (.int (2 : Int32)), .val (.int (4 : Int32)), .val (.int (2 : Int32)), .val (.int k2)] [])
              refine o_iinc W346 (x := (2 : Int32)) (L' := #[.val (.ref b0), .val (.int (3 : Int32)), .val (.ref b1), .val (.int ((2 : Int32) + (1 : Int32))), .val (.int (4 : Int32)), .val (.int (2 : Int32)), .val (.int k2)]) own_d16_35 rfl rfl (pc' := 38) rfl ?_
              show OF _ _ _ _ _ _ _ T346 (mkF m 38 #[.val (.ref b0), .val (.int (3 : Int32)), .val (.ref b1), .val (.int (3 : Int32)), .val (.int (4 : Int32)), .val (.int (2 : Int32)), .val (.int k2)] [])
              refine o_iinc W346 (x := (2 : Int32)) (L' := #[.val (.ref b0), .val (.int (3 : Int32)), .val (.ref b1), .val (.int (3 : Int32)), .val (.int (4 : Int32)), .val (.int ((2 : Int32) + (1 : Int32))), .val (.int k2)]) own_d16_38 rfl rfl (pc' := 41) rfl ?_
              show OF _ _ _ _ _ _ _ T346 (mkF m 41 #[.val (.ref b0), .val (.int (3 : Int32)), .val (.ref b1), .val (.int (3 : Int32)), .val (.int (4 : Int32)), .val (.int (3 : Int32)), .val (.int k2)] [])
              refine o_goto W346 own_d16_41 (by decide) (pq := 3) (by decide) ?_
              refine o_iload W346 own_d16_3 (v := (3 : Int32)) rfl (pc' := 5) rfl ?_
              refine o_iload W346 own_d16_5 (v := (4 : Int32)) rfl (pc' := 7) rfl ?_
              refine o_icmp_ge W346 own_d16_7 (by decide) (pq := 44) (by decide) (pc' := 10) rfl (fun hc7 => ?_) (fun hc7 => ?_)
              · exact absurd hc7 (by decide)
              · refine o_aloadN W346 own_d16_10 (v := (.ref b0)) rfl rfl (pc' := 11) rfl ?_
                refine o_iloadN W346 own_d16_11 (v := (3 : Int32)) rfl (pc' := 12) rfl ?_
                refine o_caload W346 A_b0_346 own_d16_12 (pc' := 13) rfl (i := 3) (v := k3) rfl rfl ?_
                refine o_istore W346 (L' := #[.val (.ref b0), .val (.int (3 : Int32)), .val (.ref b1), .val (.int (3 : Int32)), .val (.int (4 : Int32)), .val (.int (3 : Int32)), .val (.int k3)]) own_d16_13 rfl (pc' := 15) rfl ?_
                refine o_iload W346 own_d16_15 (v := k3) rfl (pc' := 17) rfl ?_
                refine o_sipush W346 (v := (255 : Int32)) own_d16_17 rfl (pc' := 20) rfl ?_
                refine o_icmp_le W346 own_d16_20 (by decide) (pq := 26) (by decide) (pc' := 23) rfl (fun hc20 => ?_) (fun hc20 => ?_)
                · refine o_aloadN W346 own_d16_26 (v := (.ref b1)) rfl rfl (pc' := 27) rfl ?_
                  refine o_iloadN W346 own_d16_27 (v := (3 : Int32)) rfl (pc' := 28) rfl ?_
                  refine o_iload W346 own_d16_28 (v := k3) rfl (pc' := 30) rfl ?_
                  refine o_i2b W346 own_d16_30 (pc' := 31) rfl ?_
                  refine o_bastore W346 A_b1_346 g1 own_d16_31 (pc' := 32) rfl (i := 3) rfl (Nat.le_of_ble_eq_true rfl) ?_
                  intro T347 h347 W347 K347 A_b1_347
                  have A_b0_347 := A_b0_346.keep1 K347 ne_b0_b1
                  have ST_347 := ST_346.keepA A_b1_346 K347
                  have A_b1_347 : OA Z h347 b1 .byte [((k0.toInt8.toInt32).toInt8.toInt32), ((k1.toInt8.toInt32).toInt8.toInt32), ((k2.toInt8.toInt32).toInt8.toInt32), ((k3.toInt8.toInt32).toInt8.toInt32)] := A_b1_347
                  have KK_K347 : Keep h0 h347 [b1] := (KK_K346).trans K347 (fun x hx => Or.inl hx)
                  refine o_iinc W347 (x := (3 : Int32)) (L' := #[.val (.ref b0), .val (.int ((3 : Int32) + (1 : Int32))), .val (.ref b1), .val (.int (3 : Int32)), .val (.int (4 : Int32)), .val (.int (3 : Int32)), .val (.int k3)]) own_d16_32 rfl rfl (pc' := 35) rfl ?_
                  show OF _ _ _ _ _ _ _ T347 (mkF m 35 #[.val (.ref b0), .val (.int (4 : Int32)), .val (.ref b1), .val (.int (3 : Int32)), .val (.int (4 : Int32)), .val (.int (3 : Int32)), .val (.int k3)] [])
                  refine o_iinc W347 (x := (3 : Int32)) (L' := #[.val (.ref b0), .val (.int (4 : Int32)), .val (.ref b1), .val (.int ((3 : Int32) + (1 : Int32))), .val (.int (4 : Int32)), .val (.int (3 : Int32)), .val (.int k3)]) own_d16_35 rfl rfl (pc' := 38) rfl ?_
                  show OF _ _ _ _ _ _ _ T347 (mkF m 38 #[.val (.ref b0), .val (.int (4 : Int32)), .val (.ref b1), .val (.int (4 : Int32)), .val (.int (4 : Int32)), .val (.int (3 : Int32)), .val (.int k3)] [])
                  refine o_iinc W347 (x := (3 : Int32)) (L' := #[.val (.ref b0), .val (.int (4 : Int32)), .val (.ref b1), .val (.int (4 : Int32)), .val (.int (4 : Int32)), .val (.int ((3 : Int32) + (1 : Int32))), .val (.int k3)]) own_d16_38 rfl rfl (pc' := 41) rfl ?_
                  show OF _ _ _ _ _ _ _ T347 (mkF m 41 #[.val (.ref b0), .val (.int (4 : Int32)), .val (.ref b1), .val (.int (4 : Int32)), .val (.int (4 : Int32)), .val (.int (4 : Int32)), .val (.int k3)] [])
                  refine o_goto W347 own_d16_41 (by decide) (pq := 3) (by decide) ?_
                  refine o_iload W347 own_d16_3 (v := (4 : Int32)) rfl (pc' := 5) rfl ?_
                  refine o_iload W347 own_d16_5 (v := (4 : Int32)) rfl (pc' := 7) rfl ?_
                  refine o_icmp_ge W347 own_d16_7 (by decide) (pq := 44) (by decide) (pc' := 10) rfl (fun hc7 => ?_) (fun hc7 => ?_)
                  · refine o_iload W347 own_d16_44 (v := (4 : Int32)) rfl (pc' := 46) rfl ?_
                    refine o_retI W347 rfl own_d16_46 (by decide) (by decide) ?_
                    exact ⟨_, rfl, KK_K347, ST_347, Or.inr (Or.inr (Or.inr (Or.inr (⟨rfl, by omega, A_b1_347⟩))))⟩
                  · exact absurd hc7 (by decide)
                · refine o_iload W346 own_d16_23 (v := (3 : Int32)) rfl (pc' := 25) rfl ?_
                  refine o_retI W346 rfl own_d16_25 (by decide) (by decide) ?_
                  exact ⟨_, rfl, KK_K346, ST_346, Or.inr (Or.inr (Or.inr (Or.inl (⟨rfl, by omega⟩))))⟩
            · refine o_iload W345 own_d16_23 (v := (2 : Int32)) rfl (pc' := 25) rfl ?_
              refine o_retI W345 rfl own_d16_25 (by decide) (by decide) ?_
              exact ⟨_, rfl, KK_K345, ST_345, Or.inr (Or.inr (Or.inl (⟨rfl, by omega⟩)))⟩
        · refine o_iload W344 own_d16_23 (v := (1 : Int32)) rfl (pc' := 25) rfl ?_
          refine o_retI W344 rfl own_d16_25 (by decide) (by decide) ?_
          exact ⟨_, rfl, KK_K344, ST_344, Or.inr (Or.inl (⟨rfl, by omega⟩))⟩
    · refine o_iload W0 own_d16_23 (v := (0 : Int32)) rfl (pc' := 25) rfl ?_
      refine o_retI W0 rfl own_d16_25 (by decide) (by decide) ?_
      exact ⟨_, rfl, Keep.refl _ _, ST, Or.inl (⟨rfl, by omega⟩)⟩
theorem own_ef21_4 (m : MethodId) (z0 : Int32) : entryFrame m #[(.int z0)] 1 = mkF m 0 #[.val (.int z0)] [] := by first | (simp [entryFrame, mkF, argsToLocals, Value.category]; done) | rfl
set_option maxRecDepth 65536 in
set_option maxHeartbeats 4000000 in
theorem rm21_4 (l : Launch) (Z : State) (a0 : Array Value) (hw : ∀ d ∈ tables_1, d.before a0 Z = true)  (h0 : Heap) (n0 : Nat) (Z0 : n0 ≤ h0.size) (cs : Int32) (fm : Value) (ST : OSt Z h0 cs fm) :
    OCon l Z (⟨"java/lang/StringUTF16", "newBytesFor", "(I)[B"⟩ : MethodName) jdk_52_method_2_code 1 (some (.array .byte)) [] ({ frames := 1, cells := 1, slots := 8, locals := 12 } : Room) #[(.int (4 : Int32))] h0 n0 (QA fun r h' => r = h0.size ∧ Keep h0 h' [] ∧ OSt Z h' cs fm ∧ OA Z h' r .byte [0, 0, 0, 0, 0, 0, 0, 0]) := by
  refine OCon.mk (plainFor_of_name own_pn2) Z0 ?_
  intro p e s m below meth cd s₁ W0
  refine OF.cast (own_ef21_4 m (4 : Int32)) ?_
  refine o_iloadN W0 own_d21_0 (v := (4 : Int32)) rfl (pc' := 1) rfl ?_
  refine o_callSI W0 (rm22 l Z a0 hw (4 : Int32) h0 n0 W0.le (by decide)) (ow hw 93 rfl) (ow hw 94 rfl) (ow hw 73 rfl) (ow hw 95 rfl) (by decide) (argsL := [(.int (4 : Int32))]) (S := []) (lenOf own_pd7 rfl) rfl rfl rfl (wt := 0) rfl (by decide) (by decide) (by decide) (by decide) (kk' := 0) rfl (nn' := 0) rfl own_d21_1 (pc' := 4) rfl ?_
  intro r348 T348 h348 W348 q348 z348
  obtain ⟨q348, rfl⟩ := q348
  obtain rfl : r348 = (8 : Int32) := q348
  refine o_newarray W348 (ty := .byte) (len := 8) (cap := 8) (ow hw 20 rfl) rfl rfl rfl own_d21_4 (pc' := 6) rfl rfl (by decide) (by decide) (by decide) (by decide) (kk' := 1) rfl (nn' := 8) rfl ?_
  intro T350 h350 a349 W350 E350 g_a349 A_a349
  have b_a349 : n0 ≤ a349 := by rw [g_a349]; exact W348.le
  have A_a349 : OA Z h350 a349 .byte [0, 0, 0, 0, 0, 0, 0, 0] := A_a349
  have ST_350 := ST.ext E350
  refine o_retA W350 (t := (.array .byte)) rfl rfl rfl rfl own_d21_6 (by decide) (by decide) ?_
  exact ⟨_, rfl, g_a349, (Keep.refl h0 []).ext E350, ST_350, A_a349⟩
theorem own_ef20_4 (m : MethodId) (z0 : Addr) (z1 : Int32) (z2 : Int32) : entryFrame m #[(.ref z0), (.int z1), (.int z2)] 5 = mkF m 0 #[.val (.ref z0), .val (.int z1), .val (.int z2), .unset, .unset] [] := by first | (simp [entryFrame, mkF, argsToLocals, Value.category]; done) | rfl
set_option maxRecDepth 65536 in
set_option maxHeartbeats 4000000 in
theorem rm20_4 (l : Launch) (Z : State) (a0 : Array Value) (hw : ∀ d ∈ tables_1, d.before a0 Z = true) (b0 : Addr) (h0 : Heap) (n0 : Nat) (Z0 : n0 ≤ h0.size) (cs : Int32) (fm : Value) (ST : OSt Z h0 cs fm) (k0 k1 k2 k3 : Int32) (hk0 : 0 ≤ k0.toInt ∧ k0.toInt ≤ 65535) (hk1 : 0 ≤ k1.toInt ∧ k1.toInt ≤ 65535) (hk2 : 0 ≤ k2.toInt ∧ k2.toInt ≤ 65535) (hk3 : 0 ≤ k3.toInt ∧ k3.toInt ≤ 65535) (A0 : OA Z h0 b0 .char [k0, k1, k2, k3]) :
    OCon l Z (⟨"java/lang/StringUTF16", "toBytes", "([CII)[B"⟩ : MethodName) jdk_52_method_14_code 5 (some (.array .byte)) [] ({ frames := 2, cells := 1, slots := 8, locals := 24 } : Room) #[(.ref b0), (.int (0 : Int32)), (.int (4 : Int32))] h0 n0 (QA fun r h' => r = h0.size ∧ Keep h0 h' [] ∧ OSt Z h' cs fm ∧ OA Z h' r .byte [own_lo k0, own_hi k0, own_lo k1, own_hi k1, own_lo k2, own_hi k2, own_lo k3, own_hi k3]) := by
  refine OCon.mk (plainFor_of_name own_pn2) Z0 ?_
  intro p e s m below meth cd s₁ W0
  refine OF.cast (own_ef20_4 m b0 (0 : Int32) (4 : Int32)) ?_
  have c_0___Int32_ : (0 : Int32).toInt = 0 := rfl
  have c_1___Int32_ : (1 : Int32).toInt = 1 := rfl
  have c_2___Int32_ : (2 : Int32).toInt = 2 := rfl
  have c_3___Int32_ : (3 : Int32).toInt = 3 := rfl
  have c_4___Int32_ : (4 : Int32).toInt = 4 := rfl
  refine o_iloadN W0 own_d20_0 (v := (4 : Int32)) rfl (pc' := 1) rfl ?_
  refine o_callSA W0 (rm21_4 l Z a0 hw h0 n0 W0.le cs fm ST) (ow hw 90 rfl) (ow hw 91 rfl) (ow hw 73 rfl) (ow hw 92 rfl) (by decide) (argsL := [(.int (4 : Int32))]) (S := []) (lenOf own_pd8 rfl) rfl rfl rfl (wt := 0) rfl (by decide) (by decide) (by decide) (by decide) (kk' := 1) rfl (nn' := 8) rfl own_d20_1 (pc' := 4) rfl ?_
  intro r351 T351 h351 W351 q351 z351
  obtain ⟨gr, KB, ST_351, AB⟩ := q351
  have A0_351 := A0.keep KB nin0
  have ne_b0_r351 : b0 ≠ r351 := Nat.ne_of_lt (Nat.lt_of_lt_of_le A0.lt (Nat.le_of_eq gr.symm))
  have gb : n0 ≤ r351 := by rw [gr]; exact Z0
  have KK := KB
  refine o_astoreN W351 (L' := #[.val (.ref b0), .val (.int (0 : Int32)), .val (.int (4 : Int32)), .val (.ref r351), .unset]) own_d20_4 rfl rfl (pc' := 5) rfl ?_
  refine o_iconst W351 (v := (0 : Int32)) own_d20_5 rfl (pc' := 6) rfl ?_
  refine o_istore W351 (L' := #[.val (.ref b0), .val (.int (0 : Int32)), .val (.int (4 : Int32)), .val (.ref r351), .val (.int (0 : Int32))]) own_d20_6 rfl (pc' := 8) rfl ?_
  refine o_iload W351 own_d20_8 (v := (0 : Int32)) rfl (pc' := 10) rfl ?_
  refine o_iloadN W351 own_d20_10 (v := (4 : Int32)) rfl (pc' := 11) rfl ?_
  refine o_icmp_ge W351 own_d20_11 (by decide) (pq := 32) (by decide) (pc' := 14) rfl (fun hc11 => ?_) (fun hc11 => ?_)
  · exact absurd hc11 (by decide)
  · refine o_aloadN W351 own_d20_14 (v := (.ref r351)) rfl rfl (pc' := 15) rfl ?_
    refine o_iload W351 own_d20_15 (v := (0 : Int32)) rfl (pc' := 17) rfl ?_
    refine o_aloadN W351 own_d20_17 (v := (.ref b0)) rfl rfl (pc' := 18) rfl ?_
    refine o_iloadN W351 own_d20_18 (v := (0 : Int32)) rfl (pc' := 19) rfl ?_
    refine o_caload W351 A0_351 own_d20_19 (pc' := 20) rfl (i := 0) (v := k0) rfl rfl ?_
    refine o_callS W351 (rm23 l Z a0 hw r351 (0 : Int32) k0 h351 n0 W351.le cs fm ST_351 _ 0 AB gb rfl (by decide) (Nat.le_of_ble_eq_true rfl)) (ow hw 97 rfl) (ow hw 98 rfl) (ow hw 73 rfl) (ow hw 99 rfl) (by decide) (argsL := [(.ref r351), (.int (0 : Int32)), (.int k0)]) (S := []) (lenOf own_pd9 rfl) rfl rfl rfl (wt := 0) rfl (by decide) (by decide) (by decide) (by decide) (kk' := 1) rfl (nn' := 8) rfl own_d20_20 (pc' := 23) rfl ?_
    intro r352 T352 h352 W352 q352 z352
    obtain ⟨rfl, q352⟩ := q352
    show OF _ _ _ _ _ _ _ T352 (mkF m 23 #[.val (.ref b0), .val (.int (0 : Int32)), .val (.int (4 : Int32)), .val (.ref r351), .val (.int (0 : Int32))] [])
    obtain ⟨KP, ST_352, AB_352⟩ := q352
    have AB_352 : OA Z h352 r351 .byte [own_lo k0, own_hi k0, 0, 0, 0, 0, 0, 0] := AB_352
    have A0_352 := A0_351.keep1 KP ne_b0_r351
    have KK : Keep h0 h352 [] := KK.trans KP (fun x hx => Or.inr (by simp only [List.mem_singleton] at hx; rw [hx, gr]; exact Nat.le_refl _))
    refine o_iinc W352 (x := (0 : Int32)) (L' := #[.val (.ref b0), .val (.int ((0 : Int32) + (1 : Int32))), .val (.int (4 : Int32)), .val (.ref r351), .val (.int (0 : Int32))]) own_d20_23 rfl rfl (pc' := 26) rfl ?_
    show OF _ _ _ _ _ _ _ T352 (mkF m 26 #[.val (.ref b0), .val (.int (1 : Int32)), .val (.int (4 : Int32)), .val (.ref r351), .val (.int (0 : Int32))] [])
    refine o_iinc W352 (x := (0 : Int32)) (L' := #[.val (.ref b0), .val (.int (1 : Int32)), .val (.int (4 : Int32)), .val (.ref r351), .val (.int ((0 : Int32) + (1 : Int32)))]) own_d20_26 rfl rfl (pc' := 29) rfl ?_
    show OF _ _ _ _ _ _ _ T352 (mkF m 29 #[.val (.ref b0), .val (.int (1 : Int32)), .val (.int (4 : Int32)), .val (.ref r351), .val (.int (1 : Int32))] [])
    refine o_goto W352 own_d20_29 (by decide) (pq := 8) (by decide) ?_
    refine o_iload W352 own_d20_8 (v := (1 : Int32)) rfl (pc' := 10) rfl ?_
    refine o_iloadN W352 own_d20_10 (v := (4 : Int32)) rfl (pc' := 11) rfl ?_
    refine o_icmp_ge W352 own_d20_11 (by decide) (pq := 32) (by decide) (pc' := 14) rfl (fun hc11 => ?_) (fun hc11 => ?_)
    · exact absurd hc11 (by decide)
    · refine o_aloadN W352 own_d20_14 (v := (.ref r351)) rfl rfl (pc' := 15) rfl ?_
      refine o_iload W352 own_d20_15 (v := (1 : Int32)) rfl (pc' := 17) rfl ?_
      refine o_aloadN W352 own_d20_17 (v := (.ref b0)) rfl rfl (pc' := 18) rfl ?_
      refine o_iloadN W352 own_d20_18 (v := (1 : Int32)) rfl (pc' := 19) rfl ?_
      refine o_caload W352 A0_352 own_d20_19 (pc' := 20) rfl (i := 1) (v := k1) rfl rfl ?_
      refine o_callS W352 (rm23 l Z a0 hw r351 (1 : Int32) k1 h352 n0 W352.le cs fm ST_352 _ 1 AB_352 gb rfl (by decide) (Nat.le_of_ble_eq_true rfl)) (ow hw 97 rfl) (ow hw 98 rfl) (ow hw 73 rfl) (ow hw 99 rfl) (by decide) (argsL := [(.ref r351), (.int (1 : Int32)), (.int k1)]) (S := []) (lenOf own_pd9 rfl) rfl rfl rfl (wt := 0) rfl (by decide) (by decide) (by decide) (by decide) (kk' := 1) rfl (nn' := 8) rfl own_d20_20 (pc' := 23) rfl ?_
      intro r353 T353 h353 W353 q353 z353
      obtain ⟨rfl, q353⟩ := q353
      show OF _ _ _ _ _ _ _ T353 (mkF m 23 #[.val (.ref b0), .val (.int (1 : Int32)), .val (.int (4 : Int32)), .val (.ref r351), .val (.int (1 : Int32))] [])
      obtain ⟨KP, ST_353, AB_353⟩ := q353
      have AB_353 : OA Z h353 r351 .byte [own_lo k0, own_hi k0, own_lo k1, own_hi k1, 0, 0, 0, 0] := AB_353
      have A0_353 := A0_352.keep1 KP ne_b0_r351
      have KK : Keep h0 h353 [] := KK.trans KP (fun x hx => Or.inr (by simp only [List.mem_singleton] at hx; rw [hx, gr]; exact Nat.le_refl _))
      refine o_iinc W353 (x := (1 : Int32)) (L' := #[.val (.ref b0), .val (.int ((1 : Int32) + (1 : Int32))), .val (.int (4 : Int32)), .val (.ref r351), .val (.int (1 : Int32))]) own_d20_23 rfl rfl (pc' := 26) rfl ?_
      show OF _ _ _ _ _ _ _ T353 (mkF m 26 #[.val (.ref b0), .val (.int (2 : Int32)), .val (.int (4 : Int32)), .val (.ref r351), .val (.int (1 : Int32))] [])
      refine o_iinc W353 (x := (1 : Int32)) (L' := #[.val (.ref b0), .val (.int (2 : Int32)), .val (.int (4 : Int32)), .val (.ref r351), .val (.int ((1 : Int32) + (1 : Int32)))]) own_d20_26 rfl rfl (pc' := 29) rfl ?_
      show OF _ _ _ _ _ _ _ T353 (mkF m 29 #[.val (.ref b0), .val (.int (2 : Int32)), .val (.int (4 : Int32)), .val (.ref r351), .val (.int (2 : Int32))] [])
      refine o_goto W353 own_d20_29 (by decide) (pq := 8) (by decide) ?_
      refine o_iload W353 own_d20_8 (v := (2 : Int32)) rfl (pc' := 10) rfl ?_
      refine o_iloadN W353 own_d20_10 (v := (4 : Int32)) rfl (pc' := 11) rfl ?_
      refine o_icmp_ge W353 own_d20_11 (by decide) (pq := 32) (by decide) (pc' := 14) rfl (fun hc11 => ?_) (fun hc11 => ?_)
      · exact absurd hc11 (by decide)
      · refine o_aloadN W353 own_d20_14 (v := (.ref r351)) rfl rfl (pc' := 15) rfl ?_
        refine o_iload W353 own_d20_15 (v := (2 : Int32)) rfl (pc' := 17) rfl ?_
        refine o_aloadN W353 own_d20_17 (v := (.ref b0)) rfl rfl (pc' := 18) rfl ?_
        refine o_iloadN W353 own_d20_18 (v := (2 : Int32)) rfl (pc' := 19) rfl ?_
        refine o_caload W353 A0_353 own_d20_19 (pc' := 20) rfl (i := 2) (v := k2) rfl rfl ?_
        refine o_callS W353 (rm23 l Z a0 hw r351 (2 : Int32) k2 h353 n0 W353.le cs fm ST_353 _ 2 AB_353 gb rfl (by decide) (Nat.le_of_ble_eq_true rfl)) (ow hw 97 rfl) (ow hw 98 rfl) (ow hw 73 rfl) (ow hw 99 rfl) (by decide) (argsL := [(.ref r351), (.int (2 : Int32)), (.int k2)]) (S := []) (lenOf own_pd9 rfl) rfl rfl rfl (wt := 0) rfl (by decide) (by decide) (by decide) (by decide) (kk' := 1) rfl (nn' := 8) rfl own_d20_20 (pc' := 23) rfl ?_
        intro r354 T354 h354 W354 q354 z354
        obtain ⟨rfl, q354⟩ := q354
        show OF _ _ _ _ _ _ _ T354 (mkF m 23 #[.val (.ref b0), .val (.int (2 : Int32)), .val (.int (4 : Int32)), .val (.ref r351), .val (.int (2 : Int32))] [])
        obtain ⟨KP, ST_354, AB_354⟩ := q354
        have AB_354 : OA Z h354 r351 .byte [own_lo k0, own_hi k0, own_lo k1, own_hi k1, own_lo k2, own_hi k2, 0, 0] := AB_354
        have A0_354 := A0_353.keep1 KP ne_b0_r351
        have KK : Keep h0 h354 [] := KK.trans KP (fun x hx => Or.inr (by simp only [List.mem_singleton] at hx; rw [hx, gr]; exact Nat.le_refl _))
        refine o_iinc W354 (x := (2 : Int32)) (L' := #[.val (.ref b0), .val (.int ((2 : Int32) + (1 : Int32))), .val (.int (4 : Int32)), .val (.ref r351), .val (.int (2 : Int32))]) own_d20_23 rfl rfl (pc' := 26) rfl ?_
        show OF _ _ _ _ _ _ _ T354 (mkF m 26 #[.val (.ref b0), .val (.int (3 : Int32)), .val (.int (4 : Int32)), .val (.ref r351), .val (.int (2 : Int32))] [])
        refine o_iinc W354 (x := (2 : Int32)) (L' := #[.val (.ref b0), .val (.int (3 : Int32)), .val (.int (4 : Int32)), .val (.ref r351), .val (.int ((2 : Int32) + (1 : Int32)))]) own_d20_26 rfl rfl (pc' := 29) rfl ?_
        show OF _ _ _ _ _ _ _ T354 (mkF m 29 #[.val (.ref b0), .val (.int (3 : Int32)), .val (.int (4 : Int32)), .val (.ref r351), .val (.int (3 : Int32))] [])
        refine o_goto W354 own_d20_29 (by decide) (pq := 8) (by decide) ?_
        refine o_iload W354 own_d20_8 (v := (3 : Int32)) rfl (pc' := 10) rfl ?_
        refine o_iloadN W354 own_d20_10 (v := (4 : Int32)) rfl (pc' := 11) rfl ?_
        refine o_icmp_ge W354 own_d20_11 (by decide) (pq := 32) (by decide) (pc' := 14) rfl (fun hc11 => ?_) (fun hc11 => ?_)
        · exact absurd hc11 (by decide)
        · refine o_aloadN W354 own_d20_14 (v := (.ref r351)) rfl rfl (pc' := 15) rfl ?_
          refine o_iload W354 own_d20_15 (v := (3 : Int32)) rfl (pc' := 17) rfl ?_
          refine o_aloadN W354 own_d20_17 (v := (.ref b0)) rfl rfl (pc' := 18) rfl ?_
          refine o_iloadN W354 own_d20_18 (v := (3 : Int32)) rfl (pc' := 19) rfl ?_
          refine o_caload W354 A0_354 own_d20_19 (pc' := 20) rfl (i := 3) (v := k3) rfl rfl ?_
          refine o_callS W354 (rm23 l Z a0 hw r351 (3 : Int32) k3 h354 n0 W354.le cs fm ST_354 _ 3 AB_354 gb rfl (by decide) (Nat.le_of_ble_eq_true rfl)) (ow hw 97 rfl) (ow hw 98 rfl) (ow hw 73 rfl) (ow hw 99 rfl) (by decide) (argsL := [(.ref r351), (.int (3 : Int32)), (.int k3)]) (S := []) (lenOf own_pd9 rfl) rfl rfl rfl (wt := 0) rfl (by decide) (by decide) (by decide) (by decide) (kk' := 1) rfl (nn' := 8) rfl own_d20_20 (pc' := 23) rfl ?_
          intro r355 T355 h355 W355 q355 z355
          obtain ⟨rfl, q355⟩ := q355
          show OF _ _ _ _ _ _ _ T355 (mkF m 23 #[.val (.ref b0), .val (.int (3 : Int32)), .val (.int (4 : Int32)), .val (.ref r351), .val (.int (3 : Int32))] [])
          obtain ⟨KP, ST_355, AB_355⟩ := q355
          have AB_355 : OA Z h355 r351 .byte [own_lo k0, own_hi k0, own_lo k1, own_hi k1, own_lo k2, own_hi k2, own_lo k3, own_hi k3] := AB_355
          have A0_355 := A0_354.keep1 KP ne_b0_r351
          have KK : Keep h0 h355 [] := KK.trans KP (fun x hx => Or.inr (by simp only [List.mem_singleton] at hx; rw [hx, gr]; exact Nat.le_refl _))
          refine o_iinc W355 (x := (3 : Int32)) (L' := #[.val (.ref b0), .val (.int ((3 : Int32) + (1 : Int32))), .val (.int (4 : Int32)), .val (.ref r351), .val (.int (3 : Int32))]) own_d20_23 rfl rfl (pc' := 26) rfl ?_
          show OF _ _ _ _ _ _ _ T355 (mkF m 26 #[.val (.ref b0), .val (.int (4 : Int32)), .val (.int (4 : Int32)), .val (.ref r351), .val (.int (3 : Int32))] [])
          refine o_iinc W355 (x := (3 : Int32)) (L' := #[.val (.ref b0), .val (.int (4 : Int32)), .val (.int (4 : Int32)), .val (.ref r351), .val (.int ((3 : Int32) + (1 : Int32)))]) own_d20_26 rfl rfl (pc' := 29) rfl ?_
          show OF _ _ _ _ _ _ _ T355 (mkF m 29 #[.val (.ref b0), .val (.int (4 : Int32)), .val (.int (4 : Int32)), .val (.ref r351), .val (.int (4 : Int32))] [])
          refine o_goto W355 own_d20_29 (by decide) (pq := 8) (by decide) ?_
          refine o_iload W355 own_d20_8 (v := (4 : Int32)) rfl (pc' := 10) rfl ?_
          refine o_iloadN W355 own_d20_10 (v := (4 : Int32)) rfl (pc' := 11) rfl ?_
          refine o_icmp_ge W355 own_d20_11 (by decide) (pq := 32) (by decide) (pc' := 14) rfl (fun hc11 => ?_) (fun hc11 => ?_)
          · refine o_aloadN W355 own_d20_32 (v := (.ref r351)) rfl rfl (pc' := 33) rfl ?_
            refine o_retA W355 (t := (.array .byte)) rfl rfl rfl rfl own_d20_33 (by decide) (by decide) ?_
            exact ⟨_, rfl, gr, KK, ST_355, AB_355⟩
          · exact absurd hc11 (by decide)
theorem own_ef15_4 (m : MethodId) (z0 : Addr) (z1 : Int32) (z2 : Int32) : entryFrame m #[(.ref z0), (.int z1), (.int z2)] 6 = mkF m 0 #[.val (.ref z0), .val (.int z1), .val (.int z2), .unset, .unset, .unset] [] := by first | (simp [entryFrame, mkF, argsToLocals, Value.category]; done) | rfl
set_option maxRecDepth 65536 in
set_option maxHeartbeats 4000000 in
theorem rm15_4 (l : Launch) (Z : State) (a0 : Array Value) (hw : ∀ d ∈ tables_1, d.before a0 Z = true) (b0 : Addr) (h0 : Heap) (n0 : Nat) (Z0 : n0 ≤ h0.size) (cs : Int32) (fm : Value) (ST : OSt Z h0 cs fm) (k0 k1 k2 k3 : Int32) (hk0 : 0 ≤ k0.toInt ∧ k0.toInt ≤ 65535) (hk1 : 0 ≤ k1.toInt ∧ k1.toInt ≤ 65535) (hk2 : 0 ≤ k2.toInt ∧ k2.toInt ≤ 65535) (hk3 : 0 ≤ k3.toInt ∧ k3.toInt ≤ 65535) (A0 : OA Z h0 b0 .char [k0, k1, k2, k3]) :
    OCon l Z (⟨"java/lang/StringUTF16", "compress", "([CII)[B"⟩ : MethodName) jdk_52_method_16_code 6 (some (.array .byte)) [] ({ frames := 3, cells := 2, slots := 12, locals := 40 } : Room) #[(.ref b0), (.int (0 : Int32)), (.int (4 : Int32))] h0 n0 (QA fun r h' => h0.size ≤ r ∧ Keep h0 h' [] ∧ OSt Z h' cs fm ∧ (((k0.toInt ≤ 255 ∧ k1.toInt ≤ 255 ∧ k2.toInt ≤ 255 ∧ k3.toInt ≤ 255) ∧ OA Z h' r .byte [own_b k0, own_b k1, own_b k2, own_b k3]) ∨ OA Z h' r .byte [own_lo k0, own_hi k0, own_lo k1, own_hi k1, own_lo k2, own_hi k2, own_lo k3, own_hi k3])) := by
  refine OCon.mk (plainFor_of_name own_pn2) Z0 ?_
  intro p e s m below meth cd s₁ W0
  refine OF.cast (own_ef15_4 m b0 (0 : Int32) (4 : Int32)) ?_
  have c_0___Int32_ : (0 : Int32).toInt = 0 := rfl
  have c_1___Int32_ : (1 : Int32).toInt = 1 := rfl
  have c_2___Int32_ : (2 : Int32).toInt = 2 := rfl
  have c_255___Int32_ : (255 : Int32).toInt = 255 := rfl
  have c_3___Int32_ : (3 : Int32).toInt = 3 := rfl
  have c_4___Int32_ : (4 : Int32).toInt = 4 := rfl
  refine o_iloadN W0 own_d15_0 (v := (4 : Int32)) rfl (pc' := 1) rfl ?_
  refine o_newarray W0 (ty := .byte) (len := 4) (cap := 4) (ow hw 20 rfl) rfl rfl rfl own_d15_1 (pc' := 3) rfl rfl (by decide) (by decide) (by decide) (by decide) (kk' := 1) rfl (nn' := 4) rfl ?_
  intro T357 h357 a356 W357 E357 g_a356 A_a356
  have b_a356 : n0 ≤ a356 := by rw [g_a356]; exact W0.le
  have ne_b0_a356 : b0 ≠ a356 := Nat.ne_of_lt (Nat.lt_of_lt_of_le A0.lt (Nat.le_of_eq g_a356.symm))
  have A_b0_357 := A0.ext E357
  have A_a356 : OA Z h357 a356 .byte [0, 0, 0, 0] := A_a356
  have ST_357 := ST.ext E357
  have EE := E357
  refine o_astoreN W357 (L' := #[.val (.ref b0), .val (.int (0 : Int32)), .val (.int (4 : Int32)), .val (.ref a356), .unset, .unset]) own_d15_3 rfl rfl (pc' := 4) rfl ?_
  refine o_aloadN W357 own_d15_4 (v := (.ref b0)) rfl rfl (pc' := 5) rfl ?_
  refine o_iloadN W357 own_d15_5 (v := (0 : Int32)) rfl (pc' := 6) rfl ?_
  refine o_aloadN W357 own_d15_6 (v := (.ref a356)) rfl rfl (pc' := 7) rfl ?_
  refine o_iconst W357 (v := (0 : Int32)) own_d15_7 rfl (pc' := 8) rfl ?_
  refine o_iloadN W357 own_d15_8 (v := (4 : Int32)) rfl (pc' := 9) rfl ?_
  refine o_callSI W357 (rm16_4 l Z a0 hw b0 a356 h357 n0 W357.le cs fm ST_357 k0 k1 k2 k3 hk0 hk1 hk2 hk3 A_b0_357 A_a356 b_a356 ne_b0_a356) (ow hw 75 rfl) (ow hw 76 rfl) (ow hw 73 rfl) (ow hw 77 rfl) (by decide) (argsL := [(.ref b0), (.int (0 : Int32)), (.ref a356), (.int (0 : Int32)), (.int (4 : Int32))]) (S := []) (lenOf own_pd10 rfl) rfl rfl rfl (wt := 0) rfl (by decide) (by decide) (by decide) (by decide) (kk' := 1) rfl (nn' := 4) rfl own_d15_9 (pc' := 12) rfl ?_
  intro r358 T358 h358 W358 q358 z358
  obtain ⟨KC, ST_358, q358⟩ := q358
  have A0_358 := A_b0_357.keep1 KC ne_b0_a356
  have KK : Keep h0 h358 [] := ((Keep.refl h0 []).ext EE).trans KC (fun x hx => Or.inr (by simp only [List.mem_singleton] at hx; rw [hx, g_a356]; exact Nat.le_refl _))
  rcases q358 with ⟨rfl, hj⟩ | ⟨rfl, hj⟩ | ⟨rfl, hj⟩ | ⟨rfl, hj⟩ | ⟨rfl, hall, AL⟩
  · refine o_istore W358 (L' := #[.val (.ref b0), .val (.int (0 : Int32)), .val (.int (4 : Int32)), .val (.ref a356), .val (.int (0 : Int32)), .unset]) own_d15_12 rfl (pc' := 14) rfl ?_
    refine o_iload W358 own_d15_14 (v := (0 : Int32)) rfl (pc' := 16) rfl ?_
    refine o_iloadN W358 own_d15_16 (v := (4 : Int32)) rfl (pc' := 17) rfl ?_
    refine o_icmp_eq W358 own_d15_17 (by decide) (pq := 57) (by decide) (pc' := 20) rfl (fun hc17 => ?_) (fun hc17 => ?_)
    · exact absurd hc17 (by decide)
    · refine o_aloadN W358 own_d15_20 (v := (.ref b0)) rfl rfl (pc' := 21) rfl ?_
      refine o_iloadN W358 own_d15_21 (v := (0 : Int32)) rfl (pc' := 22) rfl ?_
      refine o_iloadN W358 own_d15_22 (v := (4 : Int32)) rfl (pc' := 23) rfl ?_
      have KK0 := KK
      refine o_callSA W358 (rm20_4 l Z a0 hw b0 h358 n0 W358.le cs fm ST_358 k0 k1 k2 k3 hk0 hk1 hk2 hk3 A0_358) (ow hw 87 rfl) (ow hw 88 rfl) (ow hw 73 rfl) (ow hw 89 rfl) (by decide) (argsL := [(.ref b0), (.int (0 : Int32)), (.int (4 : Int32))]) (S := []) (lenOf own_pd11 rfl) rfl rfl rfl (wt := 0) rfl (by decide) (by decide) (by decide) (by decide) (kk' := 2) rfl (nn' := 12) rfl own_d15_23 (pc' := 26) rfl ?_
      intro r359 T359 h359 W359 q359 z359
      obtain ⟨gu, KU, ST_359, AU⟩ := q359
      have KK := KK.trans KU (fun x hx => nomatch hx)
      refine o_astore W359 (L' := #[.val (.ref b0), .val (.int (0 : Int32)), .val (.int (4 : Int32)), .val (.ref a356), .val (.int (0 : Int32)), .val (.ref r359)]) own_d15_26 rfl rfl (pc' := 28) rfl ?_
      refine o_aload W359 own_d15_28 (v := (.ref r359)) rfl rfl (pc' := 30) rfl ?_
      refine o_iload W359 own_d15_30 (v := (0 : Int32)) rfl (pc' := 32) rfl ?_
      refine o_callSI W359 (rm24 l Z a0 hw r359 (0 : Int32) h359 n0 W359.le cs fm ST_359 _ 0 _ _ AU rfl (by decide) rfl rfl) (ow hw 103 rfl) (ow hw 104 rfl) (ow hw 73 rfl) (ow hw 105 rfl) (by decide) (argsL := [(.ref r359), (.int (0 : Int32))]) (S := []) (lenOf own_pd12 rfl) rfl rfl rfl (wt := 0) rfl (by decide) (by decide) (by decide) (by decide) (kk' := 2) rfl (nn' := 12) rfl own_d15_32 (pc' := 35) rfl ?_
      intro r360 T360 h360 W360 q360 z360
      obtain ⟨q360, rfl⟩ := q360
      obtain rfl : r360 = k0 := q360.trans (own_gcv k0 hk0.1 hk0.2)
      refine o_sipush W360 (v := (255 : Int32)) own_d15_35 rfl (pc' := 38) rfl ?_
      have cm1 : (-1 : Int32).toInt = -1 := rfl
      have ci0 : (0 : Int32).toInt = 0 := rfl
      have ci1 : (1 : Int32).toInt = 1 := rfl
      have ci2 : (2 : Int32).toInt = 2 := rfl
      have ci3 : (3 : Int32).toInt = 3 := rfl
      have ci4 : (4 : Int32).toInt = 4 := rfl
      have c255 : (255 : Int32).toInt = 255 := rfl
      refine o_icmp_gt W360 own_d15_38 (by decide) (pq := 54) (by decide) (pc' := 41) rfl (fun hc38 => ?_) (fun hc38 => ?_)
      · refine o_aload W360 own_d15_54 (v := (.ref r359)) rfl rfl (pc' := 56) rfl ?_
        refine o_retA W360 (t := (.array .byte)) rfl rfl rfl rfl own_d15_56 (by decide) (by decide) ?_
        exact ⟨_, rfl, by rw [gu]; exact KK0.1, KK, ST_359, Or.inr AU⟩
      · exfalso; omega
  · refine o_istore W358 (L' := #[.val (.ref b0), .val (.int (0 : Int32)), .val (.int (4 : Int32)), .val (.ref a356), .val (.int (1 : Int32)), .unset]) own_d15_12 rfl (pc' := 14) rfl ?_
    refine o_iload W358 own_d15_14 (v := (1 : Int32)) rfl (pc' := 16) rfl ?_
    refine o_iloadN W358 own_d15_16 (v := (4 : Int32)) rfl (pc' := 17) rfl ?_
    refine o_icmp_eq W358 own_d15_17 (by decide) (pq := 57) (by decide) (pc' := 20) rfl (fun hc17 => ?_) (fun hc17 => ?_)
    · exact absurd hc17 (by decide)
    · refine o_aloadN W358 own_d15_20 (v := (.ref b0)) rfl rfl (pc' := 21) rfl ?_
      refine o_iloadN W358 own_d15_21 (v := (0 : Int32)) rfl (pc' := 22) rfl ?_
      refine o_iloadN W358 own_d15_22 (v := (4 : Int32)) rfl (pc' := 23) rfl ?_
      have KK0 := KK
      refine o_callSA W358 (rm20_4 l Z a0 hw b0 h358 n0 W358.le cs fm ST_358 k0 k1 k2 k3 hk0 hk1 hk2 hk3 A0_358) (ow hw 87 rfl) (ow hw 88 rfl) (ow hw 73 rfl) (ow hw 89 rfl) (by decide) (argsL := [(.ref b0), (.int (0 : Int32)), (.int (4 : Int32))]) (S := []) (lenOf own_pd11 rfl) rfl rfl rfl (wt := 0) rfl (by decide) (by decide) (by decide) (by decide) (kk' := 2) rfl (nn' := 12) rfl own_d15_23 (pc' := 26) rfl ?_
      intro r361 T361 h361 W361 q361 z361
      obtain ⟨gu, KU, ST_361, AU⟩ := q361
      have KK := KK.trans KU (fun x hx => nomatch hx)
      refine o_astore W361 (L' := #[.val (.ref b0), .val (.int (0 : Int32)), .val (.int (4 : Int32)), .val (.ref a356), .val (.int (1 : Int32)), .val (.ref r361)]) own_d15_26 rfl rfl (pc' := 28) rfl ?_
      refine o_aload W361 own_d15_28 (v := (.ref r361)) rfl rfl (pc' := 30) rfl ?_
      refine o_iload W361 own_d15_30 (v := (1 : Int32)) rfl (pc' := 32) rfl ?_
      refine o_callSI W361 (rm24 l Z a0 hw r361 (1 : Int32) h361 n0 W361.le cs fm ST_361 _ 1 _ _ AU rfl (by decide) rfl rfl) (ow hw 103 rfl) (ow hw 104 rfl) (ow hw 73 rfl) (ow hw 105 rfl) (by decide) (argsL := [(.ref r361), (.int (1 : Int32))]) (S := []) (lenOf own_pd12 rfl) rfl rfl rfl (wt := 0) rfl (by decide) (by decide) (by decide) (by decide) (kk' := 2) rfl (nn' := 12) rfl own_d15_32 (pc' := 35) rfl ?_
      intro r362 T362 h362 W362 q362 z362
      obtain ⟨q362, rfl⟩ := q362
      obtain rfl : r362 = k1 := q362.trans (own_gcv k1 hk1.1 hk1.2)
      refine o_sipush W362 (v := (255 : Int32)) own_d15_35 rfl (pc' := 38) rfl ?_
      have cm1 : (-1 : Int32).toInt = -1 := rfl
      have ci0 : (0 : Int32).toInt = 0 := rfl
      have ci1 : (1 : Int32).toInt = 1 := rfl
      have ci2 : (2 : Int32).toInt = 2 := rfl
      have ci3 : (3 : Int32).toInt = 3 := rfl
      have ci4 : (4 : Int32).toInt = 4 := rfl
      have c255 : (255 : Int32).toInt = 255 := rfl
      refine o_icmp_gt W362 own_d15_38 (by decide) (pq := 54) (by decide) (pc' := 41) rfl (fun hc38 => ?_) (fun hc38 => ?_)
      · refine o_aload W362 own_d15_54 (v := (.ref r361)) rfl rfl (pc' := 56) rfl ?_
        refine o_retA W362 (t := (.array .byte)) rfl rfl rfl rfl own_d15_56 (by decide) (by decide) ?_
        exact ⟨_, rfl, by rw [gu]; exact KK0.1, KK, ST_361, Or.inr AU⟩
      · exfalso; omega
  · refine o_istore W358 (L' := #[.val (.ref b0), .val (.int (0 : Int32)), .val (.int (4 : Int32)), .val (.ref a356), .val (.int (2 : Int32)), .unset]) own_d15_12 rfl (pc' := 14) rfl ?_
    refine o_iload W358 own_d15_14 (v := (2 : Int32)) rfl (pc' := 16) rfl ?_
    refine o_iloadN W358 own_d15_16 (v := (4 : Int32)) rfl (pc' := 17) rfl ?_
    refine o_icmp_eq W358 own_d15_17 (by decide) (pq := 57) (by decide) (pc' := 20) rfl (fun hc17 => ?_) (fun hc17 => ?_)
    · exact absurd hc17 (by decide)
    · refine o_aloadN W358 own_d15_20 (v := (.ref b0)) rfl rfl (pc' := 21) rfl ?_
      refine o_iloadN W358 own_d15_21 (v := (0 : Int32)) rfl (pc' := 22) rfl ?_
      refine o_iloadN W358 own_d15_22 (v := (4 : Int32)) rfl (pc' := 23) rfl ?_
      have KK0 := KK
      refine o_callSA W358 (rm20_4 l Z a0 hw b0 h358 n0 W358.le cs fm ST_358 k0 k1 k2 k3 hk0 hk1 hk2 hk3 A0_358) (ow hw 87 rfl) (ow hw 88 rfl) (ow hw 73 rfl) (ow hw 89 rfl) (by decide) (argsL := [(.ref b0), (.int (0 : Int32)), (.int (4 : Int32))]) (S := []) (lenOf own_pd11 rfl) rfl rfl rfl (wt := 0) rfl (by decide) (by decide) (by decide) (by decide) (kk' := 2) rfl (nn' := 12) rfl own_d15_23 (pc' := 26) rfl ?_
      intro r363 T363 h363 W363 q363 z363
      obtain ⟨gu, KU, ST_363, AU⟩ := q363
      have KK := KK.trans KU (fun x hx => nomatch hx)
      refine o_astore W363 (L' := #[.val (.ref b0), .val (.int (0 : Int32)), .val (.int (4 : Int32)), .val (.ref a356), .val (.int (2 : Int32)), .val (.ref r363)]) own_d15_26 rfl rfl (pc' := 28) rfl ?_
      refine o_aload W363 own_d15_28 (v := (.ref r363)) rfl rfl (pc' := 30) rfl ?_
      refine o_iload W363 own_d15_30 (v := (2 : Int32)) rfl (pc' := 32) rfl ?_
      refine o_callSI W363 (rm24 l Z a0 hw r363 (2 : Int32) h363 n0 W363.le cs fm ST_363 _ 2 _ _ AU rfl (by decide) rfl rfl) (ow hw 103 rfl) (ow hw 104 rfl) (ow hw 73 rfl) (ow hw 105 rfl) (by decide) (argsL := [(.ref r363), (.int (2 : Int32))]) (S := []) (lenOf own_pd12 rfl) rfl rfl rfl (wt := 0) rfl (by decide) (by decide) (by decide) (by decide) (kk' := 2) rfl (nn' := 12) rfl own_d15_32 (pc' := 35) rfl ?_
      intro r364 T364 h364 W364 q364 z364
      obtain ⟨q364, rfl⟩ := q364
      obtain rfl : r364 = k2 := q364.trans (own_gcv k2 hk2.1 hk2.2)
      refine o_sipush W364 (v := (255 : Int32)) own_d15_35 rfl (pc' := 38) rfl ?_
      have cm1 : (-1 : Int32).toInt = -1 := rfl
      have ci0 : (0 : Int32).toInt = 0 := rfl
      have ci1 : (1 : Int32).toInt = 1 := rfl
      have ci2 : (2 : Int32).toInt = 2 := rfl
      have ci3 : (3 : Int32).toInt = 3 := rfl
      have ci4 : (4 : Int32).toInt = 4 := rfl
      have c255 : (255 : Int32).toInt = 255 := rfl
      refine o_icmp_gt W364 own_d15_38 (by decide) (pq := 54) (by decide) (pc' := 41) rfl (fun hc38 => ?_) (fun hc38 => ?_)
      · refine o_aload W364 own_d15_54 (v := (.ref r363)) rfl rfl (pc' := 56) rfl ?_
        refine o_retA W364 (t := (.array .byte)) rfl rfl rfl rfl own_d15_56 (by decide) (by decide) ?_
        exact ⟨_, rfl, by rw [gu]; exact KK0.1, KK, ST_363, Or.inr AU⟩
      · exfalso; omega
  · refine o_istore W358 (L' := #[.val (.ref b0), .val (.int (0 : Int32)), .val (.int (4 : Int32)), .val (.ref a356), .val (.int (3 : Int32)), .unset]) own_d15_12 rfl (pc' := 14) rfl ?_
    refine o_iload W358 own_d15_14 (v := (3 : Int32)) rfl (pc' := 16) rfl ?_
    refine o_iloadN W358 own_d15_16 (v := (4 : Int32)) rfl (pc' := 17) rfl ?_
    refine o_icmp_eq W358 own_d15_17 (by decide) (pq := 57) (by decide) (pc' := 20) rfl (fun hc17 => ?_) (fun hc17 => ?_)
    · exact absurd hc17 (by decide)
    · refine o_aloadN W358 own_d15_20 (v := (.ref b0)) rfl rfl (pc' := 21) rfl ?_
      refine o_iloadN W358 own_d15_21 (v := (0 : Int32)) rfl (pc' := 22) rfl ?_
      refine o_iloadN W358 own_d15_22 (v := (4 : Int32)) rfl (pc' := 23) rfl ?_
      have KK0 := KK
      refine o_callSA W358 (rm20_4 l Z a0 hw b0 h358 n0 W358.le cs fm ST_358 k0 k1 k2 k3 hk0 hk1 hk2 hk3 A0_358) (ow hw 87 rfl) (ow hw 88 rfl) (ow hw 73 rfl) (ow hw 89 rfl) (by decide) (argsL := [(.ref b0), (.int (0 : Int32)), (.int (4 : Int32))]) (S := []) (lenOf own_pd11 rfl) rfl rfl rfl (wt := 0) rfl (by decide) (by decide) (by decide) (by decide) (kk' := 2) rfl (nn' := 12) rfl own_d15_23 (pc' := 26) rfl ?_
      intro r365 T365 h365 W365 q365 z365
      obtain ⟨gu, KU, ST_365, AU⟩ := q365
      have KK := KK.trans KU (fun x hx => nomatch hx)
      refine o_astore W365 (L' := #[.val (.ref b0), .val (.int (0 : Int32)), .val (.int (4 : Int32)), .val (.ref a356), .val (.int (3 : Int32)), .val (.ref r365)]) own_d15_26 rfl rfl (pc' := 28) rfl ?_
      refine o_aload W365 own_d15_28 (v := (.ref r365)) rfl rfl (pc' := 30) rfl ?_
      refine o_iload W365 own_d15_30 (v := (3 : Int32)) rfl (pc' := 32) rfl ?_
      refine o_callSI W365 (rm24 l Z a0 hw r365 (3 : Int32) h365 n0 W365.le cs fm ST_365 _ 3 _ _ AU rfl (by decide) rfl rfl) (ow hw 103 rfl) (ow hw 104 rfl) (ow hw 73 rfl) (ow hw 105 rfl) (by decide) (argsL := [(.ref r365), (.int (3 : Int32))]) (S := []) (lenOf own_pd12 rfl) rfl rfl rfl (wt := 0) rfl (by decide) (by decide) (by decide) (by decide) (kk' := 2) rfl (nn' := 12) rfl own_d15_32 (pc' := 35) rfl ?_
      intro r366 T366 h366 W366 q366 z366
      obtain ⟨q366, rfl⟩ := q366
      obtain rfl : r366 = k3 := q366.trans (own_gcv k3 hk3.1 hk3.2)
      refine o_sipush W366 (v := (255 : Int32)) own_d15_35 rfl (pc' := 38) rfl ?_
      have cm1 : (-1 : Int32).toInt = -1 := rfl
      have ci0 : (0 : Int32).toInt = 0 := rfl
      have ci1 : (1 : Int32).toInt = 1 := rfl
      have ci2 : (2 : Int32).toInt = 2 := rfl
      have ci3 : (3 : Int32).toInt = 3 := rfl
      have ci4 : (4 : Int32).toInt = 4 := rfl
      have c255 : (255 : Int32).toInt = 255 := rfl
      refine o_icmp_gt W366 own_d15_38 (by decide) (pq := 54) (by decide) (pc' := 41) rfl (fun hc38 => ?_) (fun hc38 => ?_)
      · refine o_aload W366 own_d15_54 (v := (.ref r365)) rfl rfl (pc' := 56) rfl ?_
        refine o_retA W366 (t := (.array .byte)) rfl rfl rfl rfl own_d15_56 (by decide) (by decide) ?_
        exact ⟨_, rfl, by rw [gu]; exact KK0.1, KK, ST_365, Or.inr AU⟩
      · exfalso; omega
  · refine o_istore W358 (L' := #[.val (.ref b0), .val (.int (0 : Int32)), .val (.int (4 : Int32)), .val (.ref a356), .val (.int (4 : Int32)), .unset]) own_d15_12 rfl (pc' := 14) rfl ?_
    refine o_iload W358 own_d15_14 (v := (4 : Int32)) rfl (pc' := 16) rfl ?_
    refine o_iloadN W358 own_d15_16 (v := (4 : Int32)) rfl (pc' := 17) rfl ?_
    refine o_icmp_eq W358 own_d15_17 (by decide) (pq := 57) (by decide) (pc' := 20) rfl (fun hc17 => ?_) (fun hc17 => ?_)
    · refine o_aloadN W358 own_d15_57 (v := (.ref a356)) rfl rfl (pc' := 58) rfl ?_
      refine o_retA W358 (t := (.array .byte)) rfl rfl rfl rfl own_d15_58 (by decide) (by decide) ?_
      exact ⟨_, rfl, Nat.le_of_eq g_a356.symm, KK, ST_358, Or.inl ⟨hall, AL⟩⟩
    · exact absurd hc17 (by decide)
theorem own_ef17_4L (m : MethodId) (z0 : Addr) (z1 : Int32) : entryFrame m #[(.ref z0), (.int z1)] 2 = mkF m 0 #[.val (.ref z0), .val (.int z1)] [] := by first | (simp [entryFrame, mkF, argsToLocals, Value.category]; done) | rfl
set_option maxRecDepth 65536 in
set_option maxHeartbeats 4000000 in
theorem rm17_4L (l : Launch) (Z : State) (a0 : Array Value) (hw : ∀ d ∈ tables_1, d.before a0 Z = true) (b1 : Addr) (h0 : Heap) (n0 : Nat) (Z0 : n0 ≤ h0.size) (k0 k1 k2 k3 : Int32) (A1 : OA Z h0 b1 .byte [own_b k0, own_b k1, own_b k2, own_b k3]) :
    OCon l Z (⟨"java/lang/StringUTF16", "coderFromArrayLen", "([BI)B"⟩ : MethodName) jdk_52_method_15_code 2 (some .byte) [] ({ frames := 0, cells := 0, slots := 0, locals := 0 } : Room) #[(.ref b1), (.int (4 : Int32))] h0 n0 (QI fun r h' => r = 0 ∧ h0 = h') := by
  refine OCon.mk (plainFor_of_name own_pn2) Z0 ?_
  intro p e s m below meth cd s₁ W0
  refine OF.cast (own_ef17_4L m b1 (4 : Int32)) ?_
  refine o_iloadN W0 own_d17_0 (v := (4 : Int32)) rfl (pc' := 1) rfl ?_
  refine o_aloadN W0 own_d17_1 (v := (.ref b1)) rfl rfl (pc' := 2) rfl ?_
  refine o_arraylength W0 A1 own_d17_2 (pc' := 3) rfl ?_
  intro v367 hv367
  obtain rfl : v367 = (4 : Int32) := o_eq (y := (4 : Int32)) hv367
  refine o_isub W0 own_d17_3 (pc' := 4) rfl ?_
  show OF _ _ _ _ _ _ _ s₁ (mkF m 4 #[.val (.ref b1), .val (.int (4 : Int32))] [(.int (0 : Int32))])
  refine o_bipush W0 (v := (31 : Int32)) own_d17_4 rfl (pc' := 6) rfl ?_
  refine o_iushr W0 own_d17_6 (pc' := 7) rfl ?_
  refine o_i2b W0 own_d17_7 (pc' := 8) rfl ?_
  refine o_retN W0 (t := .byte) rfl (by simp) own_d17_8 (by decide) (by decide) ?_
  exact ⟨0, rfl, rfl, rfl⟩
theorem own_ef17_4U (m : MethodId) (z0 : Addr) (z1 : Int32) : entryFrame m #[(.ref z0), (.int z1)] 2 = mkF m 0 #[.val (.ref z0), .val (.int z1)] [] := by first | (simp [entryFrame, mkF, argsToLocals, Value.category]; done) | rfl
set_option maxRecDepth 65536 in
set_option maxHeartbeats 4000000 in
theorem rm17_4U (l : Launch) (Z : State) (a0 : Array Value) (hw : ∀ d ∈ tables_1, d.before a0 Z = true) (b1 : Addr) (h0 : Heap) (n0 : Nat) (Z0 : n0 ≤ h0.size) (k0 k1 k2 k3 : Int32) (A1 : OA Z h0 b1 .byte [own_lo k0, own_hi k0, own_lo k1, own_hi k1, own_lo k2, own_hi k2, own_lo k3, own_hi k3]) :
    OCon l Z (⟨"java/lang/StringUTF16", "coderFromArrayLen", "([BI)B"⟩ : MethodName) jdk_52_method_15_code 2 (some .byte) [] ({ frames := 0, cells := 0, slots := 0, locals := 0 } : Room) #[(.ref b1), (.int (4 : Int32))] h0 n0 (QI fun r h' => r = 1 ∧ h0 = h') := by
  refine OCon.mk (plainFor_of_name own_pn2) Z0 ?_
  intro p e s m below meth cd s₁ W0
  refine OF.cast (own_ef17_4U m b1 (4 : Int32)) ?_
  refine o_iloadN W0 own_d17_0 (v := (4 : Int32)) rfl (pc' := 1) rfl ?_
  refine o_aloadN W0 own_d17_1 (v := (.ref b1)) rfl rfl (pc' := 2) rfl ?_
  refine o_arraylength W0 A1 own_d17_2 (pc' := 3) rfl ?_
  intro v368 hv368
  obtain rfl : v368 = (8 : Int32) := o_eq (y := (8 : Int32)) hv368
  refine o_isub W0 own_d17_3 (pc' := 4) rfl ?_
  show OF _ _ _ _ _ _ _ s₁ (mkF m 4 #[.val (.ref b1), .val (.int (4 : Int32))] [(.int (-4 : Int32))])
  refine o_bipush W0 (v := (31 : Int32)) own_d17_4 rfl (pc' := 6) rfl ?_
  refine o_iushr W0 own_d17_6 (pc' := 7) rfl ?_
  refine o_i2b W0 own_d17_7 (pc' := 8) rfl ?_
  refine o_retN W0 (t := .byte) rfl (by simp) own_d17_8 (by decide) (by decide) ?_
  exact ⟨1, rfl, rfl, rfl⟩
theorem own_ef3_4 (m : MethodId) (z0 : Addr) (z1 : Addr) (z2 : Int32) (z3 : Int32) : entryFrame m #[(.ref z0), (.ref z1), (.int z2), (.int z3), .null] 6 = mkF m 0 #[.val (.ref z0), .val (.ref z1), .val (.int z2), .val (.int z3), .val .null, .unset] [] := by first | (simp [entryFrame, mkF, argsToLocals, Value.category]; done) | rfl
set_option maxRecDepth 65536 in
set_option maxHeartbeats 4000000 in
theorem rm3_4 (l : Launch) (Z : State) (a0 : Array Value) (hw : ∀ d ∈ tables_1, d.before a0 Z = true) (b0 b1 : Addr) (h0 : Heap) (n0 : Nat) (Z0 : n0 ≤ h0.size) (cs : Int32) (fm : Value) (ST : OSt Z h0 cs fm) (hcs : ¬ cs.toInt = 0) (k0 k1 k2 k3 : Int32) (hk0 : 0 ≤ k0.toInt ∧ k0.toInt ≤ 65535) (hk1 : 0 ≤ k1.toInt ∧ k1.toInt ≤ 65535) (hk2 : 0 ≤ k2.toInt ∧ k2.toInt ≤ 65535) (hk3 : 0 ≤ k3.toInt ∧ k3.toInt ≤ 65535) (A1 : OA Z h0 b1 .char [k0, k1, k2, k3]) (E0 : Exa Z h0 b0 "java/lang/String") (Fv : Fld Z h0 b0 "java/lang/String" "value" "[B" .null) (Fc : Fld Z h0 b0 "java/lang/String" "coder" "B" (.int (0 : Int32))) (g0 : n0 ≤ b0) :
    OCon l Z (⟨"java/lang/String", "<init>", "([CIILjava/lang/Void;)V"⟩ : MethodName) jdk_42_method_149_code 6 none [] ({ frames := 4, cells := 2, slots := 12, locals := 57 } : Room) #[(.ref b0), (.ref b1), (.int (0 : Int32)), (.int (4 : Int32)), .null] h0 n0 (QV fun h' => Exa Z h' b0 "java/lang/String" ∧ Keep h0 h' [b0] ∧ OSt Z h' cs fm ∧ ∃ r, Fld Z h' b0 "java/lang/String" "value" "[B" (.ref r) ∧ (((k0.toInt ≤ 255 ∧ k1.toInt ≤ 255 ∧ k2.toInt ≤ 255 ∧ k3.toInt ≤ 255) ∧ Fld Z h' b0 "java/lang/String" "coder" "B" (.int 0) ∧ OA Z h' r .byte [own_b k0, own_b k1, own_b k2, own_b k3]) ∨ (Fld Z h' b0 "java/lang/String" "coder" "B" (.int 1) ∧ OA Z h' r .byte [own_lo k0, own_hi k0, own_lo k1, own_hi k1, own_lo k2, own_hi k2, own_lo k3, own_hi k3]))) := by
  refine OCon.mk (plainFor_of_name own_pn4) Z0 ?_
  intro p e s m below meth cd s₁ W0
  refine OF.cast (own_ef3_4 m b0 b1 (0 : Int32) (4 : Int32)) ?_
  have c_4___Int32_ : (4 : Int32).toInt = 4 := rfl
  refine o_aloadN W0 own_d3_0 (v := (.ref b0)) rfl rfl (pc' := 1) rfl ?_
  refine o_initO W0 (ow hw 16 rfl) (ow hw 17 rfl) (ow hw 18 rfl) rfl (wt := 0) rfl (by decide) (by decide) own_d3_1 (pc' := 4) rfl ?_
  intro T369 W369
  refine o_iloadN W369 own_d3_4 (v := (4 : Int32)) rfl (pc' := 5) rfl ?_
  refine o_if_ne W369 own_d3_5 (by decide) (pq := 27) (by decide) (pc' := 8) rfl (fun hc5 => ?_) (fun hc5 => ?_)
  · refine o_getS W369 (ow hw 46 rfl) ST.1 own_d3_27 (pc' := 30) rfl ?_
    intro T370 W370
    refine o_if_eq W370 own_d3_30 (by decide) (pq := 58) (by decide) (pc' := 33) rfl (fun hc30 => ?_) (fun hc30 => ?_)
    · exact absurd hc30 hcs
    · refine o_aloadN W370 own_d3_33 (v := (.ref b1)) rfl rfl (pc' := 34) rfl ?_
      refine o_iloadN W370 own_d3_34 (v := (0 : Int32)) rfl (pc' := 35) rfl ?_
      refine o_iloadN W370 own_d3_35 (v := (4 : Int32)) rfl (pc' := 36) rfl ?_
      refine o_callSA W370 (rm15_4 l Z a0 hw b1 h0 n0 W370.le cs fm ST k0 k1 k2 k3 hk0 hk1 hk2 hk3 A1) (ow hw 71 rfl) (ow hw 72 rfl) (ow hw 73 rfl) (ow hw 74 rfl) (by decide) (argsL := [(.ref b1), (.int (0 : Int32)), (.int (4 : Int32))]) (S := []) (lenOf own_pd11 rfl) rfl rfl rfl (wt := 0) rfl (by decide) (by decide) (by decide) (by decide) (kk' := 2) rfl (nn' := 12) rfl own_d3_36 (pc' := 39) rfl ?_
      intro r371 T371 h371 W371 q371 z371
      obtain ⟨gr, KB, ST_371, q371⟩ := q371
      have E_371 := Exa.keep E0 KB
      have Fv_371 := Fld.keep Fv KB nin0
      have Fc_371 := Fld.keep Fc KB nin0
      have KI_371 : Keep h0 h371 [b0] := (Keep.refl h0 [b0]).trans KB (fun x hx => nomatch hx)
      have ne_r371_b0 : r371 ≠ b0 := (Nat.ne_of_lt (Nat.lt_of_lt_of_le E0.lt gr)).symm
      rcases q371 with ⟨hall, AR⟩ | AR
      · refine o_astore W371 (L' := #[.val (.ref b0), .val (.ref b1), .val (.int (0 : Int32)), .val (.int (4 : Int32)), .val .null, .val (.ref r371)]) own_d3_39 rfl rfl (pc' := 41) rfl ?_
        refine o_aloadN W371 own_d3_41 (v := (.ref b0)) rfl rfl (pc' := 42) rfl ?_
        refine o_aload W371 own_d3_42 (v := (.ref r371)) rfl rfl (pc' := 44) rfl ?_
        refine o_iloadN W371 own_d3_44 (v := (4 : Int32)) rfl (pc' := 45) rfl ?_
        refine o_callSI W371 (rm17_4L l Z a0 hw r371 h371 n0 W371.le k0 k1 k2 k3 AR) (ow hw 78 rfl) (ow hw 79 rfl) (ow hw 73 rfl) (ow hw 80 rfl) (by decide) (argsL := [(.ref r371), (.int (4 : Int32))]) (S := [(.ref b0)]) (lenOf own_pd13 rfl) rfl rfl rfl (wt := 1) rfl (by decide) (by decide) (by decide) (by decide) (kk' := 2) rfl (nn' := 12) rfl own_d3_45 (pc' := 48) rfl ?_
        intro r372 T372 h372 W372 q372 z372
        obtain ⟨q372, rfl⟩ := q372
        obtain rfl : r372 = (0 : Int32) := q372
        refine o_putF W372 (ow hw 26 rfl) Fc_371 E_371 (Or.inr ⟨(ow hw 22 rfl), rfl, rfl⟩) (ow hw 7 rfl) (ty := .byte) (by decide) (v' := (.int (nar .byte (0 : Int32)))) rfl (fits_nar_byte _) g0 own_d3_48 (pc' := 51) rfl ?_
        intro T373 h373 W373 R373
        have F_value_b0_373 := Fld.other R373 Fv_371 (Or.inr (slot_ne (Or.inr (ow hw 21 rfl)) (Or.inr (ow hw 22 rfl)) (by decide) (t := (.array .byte)) (t' := .byte) (by decide) (by decide)))
        have F_coder_b0_373 := Fc_371.same R373
        have X_b0_373 := Exa.wr R373 E_371
        have A_r371_373 := AR.keep1 (Keep.of_wr R373) ne_r371_b0
        have ST_373 := ST_371.wr R373
        have K_373 := KI_371.wr R373 (Or.inl (by simp))
        refine o_aloadN W373 own_d3_51 (v := (.ref b0)) rfl rfl (pc' := 52) rfl ?_
        refine o_aload W373 own_d3_52 (v := (.ref r371)) rfl rfl (pc' := 54) rfl ?_
        refine o_putF W373 (ow hw 25 rfl) F_value_b0_373 X_b0_373 (Or.inr ⟨(ow hw 21 rfl), rfl, rfl⟩) (ow hw 7 rfl) (ty := (.array .byte)) (by decide) (v' := (.ref r371)) rfl rfl g0 own_d3_54 (pc' := 57) rfl ?_
        intro T374 h374 W374 R374
        have F_value_b0_374 := F_value_b0_373.same R374
        have F_coder_b0_374 := Fld.other R374 F_coder_b0_373 (Or.inr (slot_ne (Or.inr (ow hw 22 rfl)) (Or.inr (ow hw 21 rfl)) (by decide) (t := .byte) (t' := (.array .byte)) (by decide) (by decide)))
        have X_b0_374 := Exa.wr R374 X_b0_373
        have A_r371_374 := A_r371_373.keep1 (Keep.of_wr R374) ne_r371_b0
        have ST_374 := ST_373.wr R374
        have K_374 := K_373.wr R374 (Or.inl (by simp))
        refine o_retV W374 rfl own_d3_57 (by decide) (by decide) ?_
        exact ⟨rfl, X_b0_374, K_374, ST_374, r371, F_value_b0_374, Or.inl ⟨hall, F_coder_b0_374, A_r371_374⟩⟩
      · refine o_astore W371 (L' := #[.val (.ref b0), .val (.ref b1), .val (.int (0 : Int32)), .val (.int (4 : Int32)), .val .null, .val (.ref r371)]) own_d3_39 rfl rfl (pc' := 41) rfl ?_
        refine o_aloadN W371 own_d3_41 (v := (.ref b0)) rfl rfl (pc' := 42) rfl ?_
        refine o_aload W371 own_d3_42 (v := (.ref r371)) rfl rfl (pc' := 44) rfl ?_
        refine o_iloadN W371 own_d3_44 (v := (4 : Int32)) rfl (pc' := 45) rfl ?_
        refine o_callSI W371 (rm17_4U l Z a0 hw r371 h371 n0 W371.le k0 k1 k2 k3 AR) (ow hw 78 rfl) (ow hw 79 rfl) (ow hw 73 rfl) (ow hw 80 rfl) (by decide) (argsL := [(.ref r371), (.int (4 : Int32))]) (S := [(.ref b0)]) (lenOf own_pd13 rfl) rfl rfl rfl (wt := 1) rfl (by decide) (by decide) (by decide) (by decide) (kk' := 2) rfl (nn' := 12) rfl own_d3_45 (pc' := 48) rfl ?_
        intro r375 T375 h375 W375 q375 z375
        obtain ⟨q375, rfl⟩ := q375
        obtain rfl : r375 = (1 : Int32) := q375
        refine o_putF W375 (ow hw 26 rfl) Fc_371 E_371 (Or.inr ⟨(ow hw 22 rfl), rfl, rfl⟩) (ow hw 7 rfl) (ty := .byte) (by decide) (v' := (.int (nar .byte (1 : Int32)))) rfl (fits_nar_byte _) g0 own_d3_48 (pc' := 51) rfl ?_
        intro T376 h376 W376 R376
        have F_value_b0_376 := Fld.other R376 Fv_371 (Or.inr (slot_ne (Or.inr (ow hw 21 rfl)) (Or.inr (ow hw 22 rfl)) (by decide) (t := (.array .byte)) (t' := .byte) (by decide) (by decide)))
        have F_coder_b0_376 := Fc_371.same R376
        have X_b0_376 := Exa.wr R376 E_371
        have A_r371_376 := AR.keep1 (Keep.of_wr R376) ne_r371_b0
        have ST_376 := ST_371.wr R376
        have K_376 := KI_371.wr R376 (Or.inl (by simp))
        refine o_aloadN W376 own_d3_51 (v := (.ref b0)) rfl rfl (pc' := 52) rfl ?_
        refine o_aload W376 own_d3_52 (v := (.ref r371)) rfl rfl (pc' := 54) rfl ?_
        refine o_putF W376 (ow hw 25 rfl) F_value_b0_376 X_b0_376 (Or.inr ⟨(ow hw 21 rfl), rfl, rfl⟩) (ow hw 7 rfl) (ty := (.array .byte)) (by decide) (v' := (.ref r371)) rfl rfl g0 own_d3_54 (pc' := 57) rfl ?_
        intro T377 h377 W377 R377
        have F_value_b0_377 := F_value_b0_376.same R377
        have F_coder_b0_377 := Fld.other R377 F_coder_b0_376 (Or.inr (slot_ne (Or.inr (ow hw 22 rfl)) (Or.inr (ow hw 21 rfl)) (by decide) (t := .byte) (t' := (.array .byte)) (by decide) (by decide)))
        have X_b0_377 := Exa.wr R377 X_b0_376
        have A_r371_377 := A_r371_376.keep1 (Keep.of_wr R377) ne_r371_b0
        have ST_377 := ST_376.wr R377
        have K_377 := K_376.wr R377 (Or.inl (by simp))
        refine o_retV W377 rfl own_d3_57 (by decide) (by decide) ?_
        exact ⟨rfl, X_b0_377, K_377, ST_377, r371, F_value_b0_377, Or.inr ⟨F_coder_b0_377, A_r371_377⟩⟩
  · exact absurd hc5 (by decide)
theorem own_ef2_4 (m : MethodId) (z0 : Addr) (z1 : Addr) : entryFrame m #[(.ref z0), (.ref z1)] 2 = mkF m 0 #[.val (.ref z0), .val (.ref z1)] [] := by first | (simp [entryFrame, mkF, argsToLocals, Value.category]; done) | rfl
set_option maxRecDepth 65536 in
set_option maxHeartbeats 4000000 in
theorem rm2_4 (l : Launch) (Z : State) (a0 : Array Value) (hw : ∀ d ∈ tables_1, d.before a0 Z = true) (b0 : Addr) (b1 : Addr) (h0 : Heap) (n0 : Nat) (Z0 : n0 ≤ h0.size) (cs : Int32) (fm : Value) (ST : OSt Z h0 cs fm) (hcs : ¬ cs.toInt = 0) (k0 k1 k2 k3 : Int32) (hk0 : 0 ≤ k0.toInt ∧ k0.toInt ≤ 65535) (hk1 : 0 ≤ k1.toInt ∧ k1.toInt ≤ 65535) (hk2 : 0 ≤ k2.toInt ∧ k2.toInt ≤ 65535) (hk3 : 0 ≤ k3.toInt ∧ k3.toInt ≤ 65535) (A1 : OA Z h0 b1 .char [k0, k1, k2, k3]) (E0 : Exa Z h0 b0 "java/lang/String") (Fv : Fld Z h0 b0 "java/lang/String" "value" "[B" .null) (Fc : Fld Z h0 b0 "java/lang/String" "coder" "B" (.int (0 : Int32))) (g0 : n0 ≤ b0) :
    OCon l Z (⟨"java/lang/String", "<init>", "([C)V"⟩ : MethodName) jdk_42_method_3_code 2 none [] ({ frames := 5, cells := 2, slots := 12, locals := 74 } : Room) #[(.ref b0), (.ref b1)] h0 n0 (QV fun h' => Exa Z h' b0 "java/lang/String" ∧ Keep h0 h' [b0] ∧ OSt Z h' cs fm ∧ ∃ r, Fld Z h' b0 "java/lang/String" "value" "[B" (.ref r) ∧ (((k0.toInt ≤ 255 ∧ k1.toInt ≤ 255 ∧ k2.toInt ≤ 255 ∧ k3.toInt ≤ 255) ∧ Fld Z h' b0 "java/lang/String" "coder" "B" (.int 0) ∧ OA Z h' r .byte [own_b k0, own_b k1, own_b k2, own_b k3]) ∨ (Fld Z h' b0 "java/lang/String" "coder" "B" (.int 1) ∧ OA Z h' r .byte [own_lo k0, own_hi k0, own_lo k1, own_hi k1, own_lo k2, own_hi k2, own_lo k3, own_hi k3]))) := by
  refine OCon.mk (plainFor_of_name own_pn4) Z0 ?_
  intro p e s m below meth cd s₁ W0
  refine OF.cast (own_ef2_4 m b0 b1) ?_
  refine o_aloadN W0 own_d2_0 (v := (.ref b0)) rfl rfl (pc' := 1) rfl ?_
  refine o_aloadN W0 own_d2_1 (v := (.ref b1)) rfl rfl (pc' := 2) rfl ?_
  refine o_iconst W0 (v := (0 : Int32)) own_d2_2 rfl (pc' := 3) rfl ?_
  refine o_aloadN W0 own_d2_3 (v := (.ref b1)) rfl rfl (pc' := 4) rfl ?_
  refine o_arraylength W0 A1 own_d2_4 (pc' := 5) rfl ?_
  intro v378 hv378
  obtain rfl : v378 = (4 : Int32) := o_eq (y := (4 : Int32)) hv378
  refine o_aconstNull W0 own_d2_5 (pc' := 6) rfl ?_
  refine o_callC W0 (rm3_4 l Z a0 hw b0 b1 h0 n0 W0.le cs fm ST hcs k0 k1 k2 k3 hk0 hk1 hk2 hk3 A1 E0 Fv Fc g0) rfl (ow hw 12 rfl) (ow hw 13 rfl) (ow hw 8 rfl) (ow hw 15 rfl) (by decide) (argsL := [(.ref b1), (.int (0 : Int32)), (.int (4 : Int32)), .null]) (S := []) (lenOf own_pd14 rfl) rfl rfl rfl (wt := 0) rfl (by decide) (by decide) (by decide) (by decide) (kk' := 2) rfl (nn' := 12) rfl own_d2_6 (pc' := 9) rfl ?_
  intro T379 h379 W379 q379 z379
  refine o_retV W379 rfl own_d2_9 (by decide) (by decide) ?_
  exact ⟨rfl, q379⟩
theorem own_ef9_4L (m : MethodId) (z0 : Addr) : entryFrame m #[(.ref z0)] 1 = mkF m 0 #[.val (.ref z0)] [] := by first | (simp [entryFrame, mkF, argsToLocals, Value.category]; done) | rfl
set_option maxRecDepth 65536 in
set_option maxHeartbeats 4000000 in
theorem rm9_4L (l : Launch) (Z : State) (a0 : Array Value) (hw : ∀ d ∈ tables_1, d.before a0 Z = true) (b0 : Addr) (h0 : Heap) (n0 : Nat) (Z0 : n0 ≤ h0.size) (cs : Int32) (fm : Value) (ST : OSt Z h0 cs fm) (hcs : ¬ cs.toInt = 0) (k0 k1 k2 k3 : Int32) (b1 : Addr) (E0 : Exa Z h0 b0 "java/lang/String") (Fv : Fld Z h0 b0 "java/lang/String" "value" "[B" (.ref b1)) (Fc : Fld Z h0 b0 "java/lang/String" "coder" "B" (.int (0 : Int32))) (A1 : OA Z h0 b1 .byte [own_b k0, own_b k1, own_b k2, own_b k3]) :
    OCon l Z (⟨"java/lang/String", "length", "()I"⟩ : MethodName) jdk_42_method_54_code 1 (some .int) [] ({ frames := 1, cells := 0, slots := 0, locals := 13 } : Room) #[(.ref b0)] h0 n0 (QI fun r h' => r = (4 : Int32) ∧ h0 = h') := by
  refine OCon.mk (plainFor_of_name own_pn4) Z0 ?_
  intro p e s m below meth cd s₁ W0
  refine OF.cast (own_ef9_4L m b0) ?_
  refine o_aloadN W0 own_d9_0 (v := (.ref b0)) rfl rfl (pc' := 1) rfl ?_
  refine o_getF W0 (ow hw 25 rfl) Fv own_d9_1 (pc' := 4) rfl ?_
  intro T380 W380
  refine o_arraylength W380 A1 own_d9_4 (pc' := 5) rfl ?_
  intro v381 hv381
  obtain rfl : v381 = (4 : Int32) := o_eq (y := (4 : Int32)) hv381
  refine o_aloadN W380 own_d9_5 (v := (.ref b0)) rfl rfl (pc' := 6) rfl ?_
  refine o_callV W380 E0 (rm10_L l Z a0 hw b0 h0 n0 W380.le cs fm ST hcs Fc) (ow hw 52 rfl) (ow hw 53 rfl) (notFace_of_selects (args := #[]) (mvT W380.hZ (ow hw 55 rfl))) (ow hw 55 rfl) (ow hw 54 rfl) (ow hw 8 rfl) (ow hw 56 rfl) (by decide) (argsL := []) (S := [(.int (4 : Int32))]) (lenOf own_pd1 rfl) rfl rfl rfl (wt := 1) rfl (by decide) (by decide) (by decide) (by decide) (kk' := 0) rfl (nn' := 0) rfl own_d9_6 (pc' := 9) rfl ?_
  intro vv T382 h382 W382 q382 z382
  obtain ⟨r382, rfl, q382⟩ := q382
  show OF _ _ _ _ _ _ _ T382 (mkF m 9 #[.val (.ref b0)] [(.int r382), (.int (4 : Int32))])
  obtain ⟨q382, rfl⟩ := q382
  obtain rfl : r382 = (0 : Int32) := q382
  refine o_ishr W382 own_d9_9 (pc' := 10) rfl ?_
  show OF _ _ _ _ _ _ _ T382 (mkF m 10 #[.val (.ref b0)] [(.int (4 : Int32))])
  refine o_retI W382 rfl own_d9_10 (by decide) (by decide) ?_
  exact ⟨_, rfl, rfl, rfl⟩
theorem own_ef19_4 (m : MethodId) (z0 : Addr) (z1 : Int32) (z2 : Int32) (z3 : Int32) : entryFrame m #[(.ref z0), (.int z1), (.int z2), (.int z3)] 6 = mkF m 0 #[.val (.ref z0), .val (.int z1), .val (.int z2), .val (.int z3), .unset, .unset] [] := by first | (simp [entryFrame, mkF, argsToLocals, Value.category]; done) | rfl
set_option maxRecDepth 65536 in
set_option maxHeartbeats 4000000 in
theorem rm19_4 (l : Launch) (Z : State) (a0 : Array Value) (hw : ∀ d ∈ tables_1, d.before a0 Z = true) (b1 : Addr) (y1 : Int32) (h0 : Heap) (n0 : Nat) (Z0 : n0 ≤ h0.size) (hy : 0 ≤ y1.toInt ∧ y1.toInt < 128) (k0 k1 k2 k3 : Int32) (hk0 : 0 ≤ k0.toInt ∧ k0.toInt ≤ 65535) (hk1 : 0 ≤ k1.toInt ∧ k1.toInt ≤ 65535) (hk2 : 0 ≤ k2.toInt ∧ k2.toInt ≤ 65535) (hk3 : 0 ≤ k3.toInt ∧ k3.toInt ≤ 65535) (hall : k0.toInt ≤ 255 ∧ k1.toInt ≤ 255 ∧ k2.toInt ≤ 255 ∧ k3.toInt ≤ 255) (A1 : OA Z h0 b1 .byte [own_b k0, own_b k1, own_b k2, own_b k3]) :
    OCon l Z (⟨"java/lang/StringLatin1", "indexOfChar", "([BIII)I"⟩ : MethodName) jdk_43_method_23_code 6 (some .int) [] ({ frames := 0, cells := 0, slots := 0, locals := 0 } : Room) #[(.ref b1), (.int y1), (.int (0 : Int32)), (.int (4 : Int32))] h0 n0 (QI fun r h' => ((0 ≤ r.toInt ∧ (k0.toInt = y1.toInt ∨ k1.toInt = y1.toInt ∨ k2.toInt = y1.toInt ∨ k3.toInt = y1.toInt)) ∨ (r.toInt < 0 ∧ ¬ (k0.toInt = y1.toInt ∨ k1.toInt = y1.toInt ∨ k2.toInt = y1.toInt ∨ k3.toInt = y1.toInt))) ∧ h0 = h') := by
  refine OCon.mk (plainFor_of_name own_pn1) Z0 ?_
  intro p e s m below meth cd s₁ W0
  refine OF.cast (own_ef19_4 m b1 y1 (0 : Int32) (4 : Int32)) ?_
  have cm1 : (-1 : Int32).toInt = -1 := rfl
  have ci0 : (0 : Int32).toInt = 0 := rfl
  have ci1 : (1 : Int32).toInt = 1 := rfl
  have ci2 : (2 : Int32).toInt = 2 := rfl
  have ci3 : (3 : Int32).toInt = 3 := rfl
  have ci4 : (4 : Int32).toInt = 4 := rfl
  refine o_iloadN W0 own_d19_0 (v := y1) rfl (pc' := 1) rfl ?_
  refine o_i2b W0 own_d19_1 (pc' := 2) rfl ?_
  refine o_istoreG W0 (Lf := fun v383 => #[.val (.ref b1), .val (.int y1), .val (.int (0 : Int32)), .val (.int (4 : Int32)), .val (.int v383), .unset]) own_d19_2 rfl (pc' := 4) rfl ?_
  intro v383 hv383
  have hb0 := own_bcmp k0 y1 hk0.1 (by omega) hy.1 hy.2
  rw [← hv383] at hb0
  have hb1 := own_bcmp k1 y1 hk1.1 (by omega) hy.1 hy.2
  rw [← hv383] at hb1
  have hb2 := own_bcmp k2 y1 hk2.1 (by omega) hy.1 hy.2
  rw [← hv383] at hb2
  have hb3 := own_bcmp k3 y1 hk3.1 (by omega) hy.1 hy.2
  rw [← hv383] at hb3
  refine o_iloadN W0 own_d19_4 (v := (0 : Int32)) rfl (pc' := 5) rfl ?_
  refine o_istore W0 (L' := #[.val (.ref b1), .val (.int y1), .val (.int (0 : Int32)), .val (.int (4 : Int32)), .val (.int v383), .val (.int (0 : Int32))]) own_d19_5 rfl (pc' := 7) rfl ?_
  refine o_iload W0 own_d19_7 (v := (0 : Int32)) rfl (pc' := 9) rfl ?_
  refine o_iloadN W0 own_d19_9 (v := (4 : Int32)) rfl (pc' := 10) rfl ?_
  refine o_icmp_ge W0 own_d19_10 (by decide) (pq := 31) (by decide) (pc' := 13) rfl (fun hc10 => ?_) (fun hc10 => ?_)
  · exact absurd hc10 (by decide)
  · refine o_aloadN W0 own_d19_13 (v := (.ref b1)) rfl rfl (pc' := 14) rfl ?_
    refine o_iload W0 own_d19_14 (v := (0 : Int32)) rfl (pc' := 16) rfl ?_
    refine o_baload W0 A1 own_d19_16 (pc' := 17) rfl (i := 0) (v := own_b k0) rfl rfl ?_
    refine o_iload W0 own_d19_17 (v := v383) rfl (pc' := 19) rfl ?_
    refine o_icmp_ne W0 own_d19_19 (by decide) (pq := 25) (by decide) (pc' := 22) rfl (fun hc19 => ?_) (fun hc19 => ?_)
    · refine o_iinc W0 (x := (0 : Int32)) (L' := #[.val (.ref b1), .val (.int y1), .val (.int (0 : Int32)), .val (.int (4 : Int32)), .val (.int v383), .val (.int ((0 : Int32) + (1 : Int32)))]) own_d19_25 rfl rfl (pc' := 28) rfl ?_
      show OF _ _ _ _ _ _ _ s₁ (mkF m 28 #[.val (.ref b1), .val (.int y1), .val (.int (0 : Int32)), .val (.int (4 : Int32)), .val (.int v383), .val (.int (1 : Int32))] [])
      refine o_goto W0 own_d19_28 (by decide) (pq := 7) (by decide) ?_
      refine o_iload W0 own_d19_7 (v := (1 : Int32)) rfl (pc' := 9) rfl ?_
      refine o_iloadN W0 own_d19_9 (v := (4 : Int32)) rfl (pc' := 10) rfl ?_
      refine o_icmp_ge W0 own_d19_10 (by decide) (pq := 31) (by decide) (pc' := 13) rfl (fun hc10 => ?_) (fun hc10 => ?_)
      · exact absurd hc10 (by decide)
      · refine o_aloadN W0 own_d19_13 (v := (.ref b1)) rfl rfl (pc' := 14) rfl ?_
        refine o_iload W0 own_d19_14 (v := (1 : Int32)) rfl (pc' := 16) rfl ?_
        refine o_baload W0 A1 own_d19_16 (pc' := 17) rfl (i := 1) (v := own_b k1) rfl rfl ?_
        refine o_iload W0 own_d19_17 (v := v383) rfl (pc' := 19) rfl ?_
        refine o_icmp_ne W0 own_d19_19 (by decide) (pq := 25) (by decide) (pc' := 22) rfl (fun hc19 => ?_) (fun hc19 => ?_)
        · refine o_iinc W0 (x := (1 : Int32)) (L' := #[.val (.ref b1), .val (.int y1), .val (.int (0 : Int32)), .val (.int (4 : Int32)), .val (.int v383), .val (.int ((1 : Int32) + (1 : Int32)))]) own_d19_25 rfl rfl (pc' := 28) rfl ?_
          show OF _ _ _ _ _ _ _ s₁ (mkF m 28 #[.val (.ref b1), .val (.int y1), .val (.int (0 : Int32)), .val (.int (4 : Int32)), .val (.int v383), .val (.int (2 : Int32))] [])
          refine o_goto W0 own_d19_28 (by decide) (pq := 7) (by decide) ?_
          refine o_iload W0 own_d19_7 (v := (2 : Int32)) rfl (pc' := 9) rfl ?_
          refine o_iloadN W0 own_d19_9 (v := (4 : Int32)) rfl (pc' := 10) rfl ?_
          refine o_icmp_ge W0 own_d19_10 (by decide) (pq := 31) (by decide) (pc' := 13) rfl (fun hc10 => ?_) (fun hc10 => ?_)
          · exact absurd hc10 (by decide)
          · refine o_aloadN W0 own_d19_13 (v := (.ref b1)) rfl rfl (pc' := 14) rfl ?_
            refine o_iload W0 own_d19_14 (v := (2 : Int32)) rfl (pc' := 16) rfl ?_
            refine o_baload W0 A1 own_d19_16 (pc' := 17) rfl (i := 2) (v := own_b k2) rfl rfl ?_
            refine o_iload W0 own_d19_17 (v := v383) rfl (pc' := 19) rfl ?_
            refine o_icmp_ne W0 own_d19_19 (by decide) (pq := 25) (by decide) (pc' := 22) rfl (fun hc19 => ?_) (fun hc19 => ?_)
            · refine o_iinc W0 (x := (2 : Int32)) (L' := #[.val (.ref b1), .val (.int y1), .val (.int (0 : Int32)), .val (.int (4 : Int32)), .val (.int v383), .val (.int ((2 : Int32) + (1 : Int32)))]) own_d19_25 rfl rfl (pc' := 28) rfl ?_
              show OF _ _ _ _ _ _ _ s₁ (mkF m 28 #[.val (.ref b1), .val (.int y1), .val (.int (0 : Int32)), .val (.int (4 : Int32)), .val (.int v383), .val (.int (3 : Int32))] [])
              refine o_goto W0 own_d19_28 (by decide) (pq := 7) (by decide) ?_
              refine o_iload W0 own_d19_7 (v := (3 : Int32)) rfl (pc' := 9) rfl ?_
              refine o_iloadN W0 own_d19_9 (v := (4 : Int32)) rfl (pc' := 10) rfl ?_
              refine o_icmp_ge W0 own_d19_10 (by decide) (pq := 31) (by decide) (pc' := 13) rfl (fun hc10 => ?_) (fun hc10 => ?_)
              · exact absurd hc10 (by decide)
              · refine o_aloadN W0 own_d19_13 (v := (.ref b1)) rfl rfl (pc' := 14) rfl ?_
                refine o_iload W0 own_d19_14 (v := (3 : Int32)) rfl (pc' := 16) rfl ?_
                refine o_baload W0 A1 own_d19_16 (pc' := 17) rfl (i := 3) (v := own_b k3) rfl rfl ?_
                refine o_iload W0 own_d19_17 (v := v383) rfl (pc' := 19) rfl ?_
                refine o_icmp_ne W0 own_d19_19 (by decide) (pq := 25) (by decide) (pc' := 22) rfl (fun hc19 => ?_) (fun hc19 => ?_)
                · refine o_iinc W0 (x := (3 : Int32)) (L' := #[.val (.ref b1), .val (.int y1), .val (.int (0 : Int32)), .val (.int (4 : Int32)), .val (.int v383), .val (.int ((3 : Int32) + (1 : Int32)))]) own_d19_25 rfl rfl (pc' := 28) rfl ?_
                  show OF _ _ _ _ _ _ _ s₁ (mkF m 28 #[.val (.ref b1), .val (.int y1), .val (.int (0 : Int32)), .val (.int (4 : Int32)), .val (.int v383), .val (.int (4 : Int32))] [])
                  refine o_goto W0 own_d19_28 (by decide) (pq := 7) (by decide) ?_
                  refine o_iload W0 own_d19_7 (v := (4 : Int32)) rfl (pc' := 9) rfl ?_
                  refine o_iloadN W0 own_d19_9 (v := (4 : Int32)) rfl (pc' := 10) rfl ?_
                  refine o_icmp_ge W0 own_d19_10 (by decide) (pq := 31) (by decide) (pc' := 13) rfl (fun hc10 => ?_) (fun hc10 => ?_)
                  · refine o_iconst W0 (v := (-1 : Int32)) own_d19_31 rfl (pc' := 32) rfl ?_
                    refine o_retI W0 rfl own_d19_32 (by decide) (by decide) ?_
                    exact ⟨_, rfl, by omega, rfl⟩
                  · exact absurd hc10 (by decide)
                · refine o_iload W0 own_d19_22 (v := (3 : Int32)) rfl (pc' := 24) rfl ?_
                  refine o_retI W0 rfl own_d19_24 (by decide) (by decide) ?_
                  exact ⟨_, rfl, by omega, rfl⟩
            · refine o_iload W0 own_d19_22 (v := (2 : Int32)) rfl (pc' := 24) rfl ?_
              refine o_retI W0 rfl own_d19_24 (by decide) (by decide) ?_
              exact ⟨_, rfl, by omega, rfl⟩
        · refine o_iload W0 own_d19_22 (v := (1 : Int32)) rfl (pc' := 24) rfl ?_
          refine o_retI W0 rfl own_d19_24 (by decide) (by decide) ?_
          exact ⟨_, rfl, by omega, rfl⟩
    · refine o_iload W0 own_d19_22 (v := (0 : Int32)) rfl (pc' := 24) rfl ?_
      refine o_retI W0 rfl own_d19_24 (by decide) (by decide) ?_
      exact ⟨_, rfl, by omega, rfl⟩
theorem own_ef11_4 (m : MethodId) (z0 : Addr) (z1 : Int32) (z2 : Int32) (z3 : Int32) : entryFrame m #[(.ref z0), (.int z1), (.int z2), (.int z3)] 4 = mkF m 0 #[.val (.ref z0), .val (.int z1), .val (.int z2), .val (.int z3)] [] := by first | (simp [entryFrame, mkF, argsToLocals, Value.category]; done) | rfl
set_option maxRecDepth 65536 in
set_option maxHeartbeats 4000000 in
theorem rm11_4 (l : Launch) (Z : State) (a0 : Array Value) (hw : ∀ d ∈ tables_1, d.before a0 Z = true) (b1 : Addr) (y1 : Int32) (h0 : Heap) (n0 : Nat) (Z0 : n0 ≤ h0.size) (hy : 0 ≤ y1.toInt ∧ y1.toInt < 128) (k0 k1 k2 k3 : Int32) (hk0 : 0 ≤ k0.toInt ∧ k0.toInt ≤ 65535) (hk1 : 0 ≤ k1.toInt ∧ k1.toInt ≤ 65535) (hk2 : 0 ≤ k2.toInt ∧ k2.toInt ≤ 65535) (hk3 : 0 ≤ k3.toInt ∧ k3.toInt ≤ 65535) (hall : k0.toInt ≤ 255 ∧ k1.toInt ≤ 255 ∧ k2.toInt ≤ 255 ∧ k3.toInt ≤ 255) (A1 : OA Z h0 b1 .byte [own_b k0, own_b k1, own_b k2, own_b k3]) :
    OCon l Z (⟨"java/lang/StringLatin1", "indexOf", "([BIII)I"⟩ : MethodName) jdk_43_method_22_code 4 (some .int) [] ({ frames := 1, cells := 0, slots := 0, locals := 17 } : Room) #[(.ref b1), (.int y1), (.int (0 : Int32)), (.int (4 : Int32))] h0 n0 (QI fun r h' => ((0 ≤ r.toInt ∧ (k0.toInt = y1.toInt ∨ k1.toInt = y1.toInt ∨ k2.toInt = y1.toInt ∨ k3.toInt = y1.toInt)) ∨ (r.toInt < 0 ∧ ¬ (k0.toInt = y1.toInt ∨ k1.toInt = y1.toInt ∨ k2.toInt = y1.toInt ∨ k3.toInt = y1.toInt))) ∧ h0 = h') := by
  refine OCon.mk (plainFor_of_name own_pn1) Z0 ?_
  intro p e s m below meth cd s₁ W0
  refine OF.cast (own_ef11_4 m b1 y1 (0 : Int32) (4 : Int32)) ?_
  have cm1 : (-1 : Int32).toInt = -1 := rfl
  have ci0 : (0 : Int32).toInt = 0 := rfl
  have ci1 : (1 : Int32).toInt = 1 := rfl
  have ci2 : (2 : Int32).toInt = 2 := rfl
  have ci3 : (3 : Int32).toInt = 3 := rfl
  have ci4 : (4 : Int32).toInt = 4 := rfl
  refine o_iloadN W0 own_d11_0 (v := y1) rfl (pc' := 1) rfl ?_
  refine o_callSI W0 (rm12 l Z a0 hw y1 h0 n0 W0.le (by omega)) (ow hw 61 rfl) (ow hw 62 rfl) (ow hw 59 rfl) (ow hw 63 rfl) (by decide) (argsL := [(.int y1)]) (S := []) (lenOf own_pd2 rfl) rfl rfl rfl (wt := 0) rfl (by decide) (by decide) (by decide) (by decide) (kk' := 0) rfl (nn' := 0) rfl own_d11_1 (pc' := 4) rfl ?_
  intro r384 T384 h384 W384 q384 z384
  obtain ⟨q384, rfl⟩ := q384
  obtain rfl : r384 = 1 := q384
  refine o_if_ne W384 own_d11_4 (by decide) (pq := 9) (by decide) (pc' := 7) rfl (fun hc4 => ?_) (fun hc4 => ?_)
  · refine o_iloadN W384 own_d11_9 (v := (0 : Int32)) rfl (pc' := 10) rfl ?_
    refine o_iconst W384 (v := (0 : Int32)) own_d11_10 rfl (pc' := 11) rfl ?_
    refine o_callSI W384 (rm13 l Z a0 hw (0 : Int32) (0 : Int32) h0 n0 W384.le) (ow hw 64 rfl) (ow hw 65 rfl) (ow hw 66 rfl) (ow hw 67 rfl) (by decide) (argsL := [(.int (0 : Int32)), (.int (0 : Int32))]) (S := []) (lenOf own_pd3 rfl) rfl rfl rfl (wt := 0) rfl (by decide) (by decide) (by decide) (by decide) (kk' := 0) rfl (nn' := 0) rfl own_d11_11 (pc' := 14) rfl ?_
    intro r385 T385 h385 W385 q385 z385
    obtain ⟨q385, rfl⟩ := q385
    obtain rfl : r385 = (0 : Int32) := by
      rcases q385 with ⟨_, q⟩ | ⟨_, q⟩ <;> exact q
    refine o_istoreN W385 (L' := #[.val (.ref b1), .val (.int y1), .val (.int (0 : Int32)), .val (.int (4 : Int32))]) own_d11_14 rfl (pc' := 15) rfl ?_
    refine o_iloadN W385 own_d11_15 (v := (4 : Int32)) rfl (pc' := 16) rfl ?_
    refine o_aloadN W385 own_d11_16 (v := (.ref b1)) rfl rfl (pc' := 17) rfl ?_
    refine o_arraylength W385 A1 own_d11_17 (pc' := 18) rfl ?_
    intro v386 hv386
    obtain rfl : v386 = (4 : Int32) := o_eq (y := (4 : Int32)) hv386
    refine o_callSI W385 (rm14 l Z a0 hw (4 : Int32) (4 : Int32) h0 n0 W385.le) (ow hw 68 rfl) (ow hw 69 rfl) (ow hw 66 rfl) (ow hw 70 rfl) (by decide) (argsL := [(.int (4 : Int32)), (.int (4 : Int32))]) (S := []) (lenOf own_pd3 rfl) rfl rfl rfl (wt := 0) rfl (by decide) (by decide) (by decide) (by decide) (kk' := 0) rfl (nn' := 0) rfl own_d11_18 (pc' := 21) rfl ?_
    intro r387 T387 h387 W387 q387 z387
    obtain ⟨q387, rfl⟩ := q387
    obtain rfl : r387 = (4 : Int32) := by
      rcases q387 with ⟨_, q⟩ | ⟨_, q⟩ <;> exact q
    refine o_istoreN W387 (L' := #[.val (.ref b1), .val (.int y1), .val (.int (0 : Int32)), .val (.int (4 : Int32))]) own_d11_21 rfl (pc' := 22) rfl ?_
    refine o_iloadN W387 own_d11_22 (v := (0 : Int32)) rfl (pc' := 23) rfl ?_
    refine o_iloadN W387 own_d11_23 (v := (4 : Int32)) rfl (pc' := 24) rfl ?_
    refine o_icmp_lt W387 own_d11_24 (by decide) (pq := 29) (by decide) (pc' := 27) rfl (fun hc24 => ?_) (fun hc24 => ?_)
    · refine o_aloadN W387 own_d11_29 (v := (.ref b1)) rfl rfl (pc' := 30) rfl ?_
      refine o_iloadN W387 own_d11_30 (v := y1) rfl (pc' := 31) rfl ?_
      refine o_iloadN W387 own_d11_31 (v := (0 : Int32)) rfl (pc' := 32) rfl ?_
      refine o_iloadN W387 own_d11_32 (v := (4 : Int32)) rfl (pc' := 33) rfl ?_
      refine o_callSI W387 (rm19_4 l Z a0 hw b1 y1 h0 n0 W387.le hy k0 k1 k2 k3 hk0 hk1 hk2 hk3 hall A1) (ow hw 84 rfl) (ow hw 85 rfl) (ow hw 59 rfl) (ow hw 86 rfl) (by decide) (argsL := [(.ref b1), (.int y1), (.int (0 : Int32)), (.int (4 : Int32))]) (S := []) (lenOf own_pd6 rfl) rfl rfl rfl (wt := 0) rfl (by decide) (by decide) (by decide) (by decide) (kk' := 0) rfl (nn' := 0) rfl own_d11_33 (pc' := 36) rfl ?_
      intro r388 T388 h388 W388 q388 z388
      obtain ⟨q388, rfl⟩ := q388
      refine o_retI W388 rfl own_d11_36 (by decide) (by decide) ?_
      exact ⟨_, rfl, q388, rfl⟩
    · exact absurd hc24 (by decide)
  · exact absurd hc4 (by decide)
theorem own_ef7_4L (m : MethodId) (z0 : Addr) (z1 : Int32) (z2 : Int32) : entryFrame m #[(.ref z0), (.int z1), (.int z2)] 3 = mkF m 0 #[.val (.ref z0), .val (.int z1), .val (.int z2)] [] := by first | (simp [entryFrame, mkF, argsToLocals, Value.category]; done) | rfl
set_option maxRecDepth 65536 in
set_option maxHeartbeats 4000000 in
theorem rm7_4L (l : Launch) (Z : State) (a0 : Array Value) (hw : ∀ d ∈ tables_1, d.before a0 Z = true) (b0 : Addr) (y1 : Int32) (h0 : Heap) (n0 : Nat) (Z0 : n0 ≤ h0.size) (hy : 0 ≤ y1.toInt ∧ y1.toInt < 128) (cs : Int32) (fm : Value) (ST : OSt Z h0 cs fm) (hcs : ¬ cs.toInt = 0) (hfm : fm.isRef = true) (k0 k1 k2 k3 : Int32) (hk0 : 0 ≤ k0.toInt ∧ k0.toInt ≤ 65535) (hk1 : 0 ≤ k1.toInt ∧ k1.toInt ≤ 65535) (hk2 : 0 ≤ k2.toInt ∧ k2.toInt ≤ 65535) (hk3 : 0 ≤ k3.toInt ∧ k3.toInt ≤ 65535) (hall : k0.toInt ≤ 255 ∧ k1.toInt ≤ 255 ∧ k2.toInt ≤ 255 ∧ k3.toInt ≤ 255) (b1 : Addr) (E0 : Exa Z h0 b0 "java/lang/String") (Fv : Fld Z h0 b0 "java/lang/String" "value" "[B" (.ref b1)) (Fc : Fld Z h0 b0 "java/lang/String" "coder" "B" (.int (0 : Int32))) (A1 : OA Z h0 b1 .byte [own_b k0, own_b k1, own_b k2, own_b k3]) :
    OCon l Z (⟨"java/lang/String", "indexOf", "(II)I"⟩ : MethodName) jdk_42_method_80_code 3 (some .int) [] ({ frames := 5, cells := 0, slots := 0, locals := 73 } : Room) #[(.ref b0), (.int y1), (.int (0 : Int32))] h0 n0 (QI fun r h' => ((0 ≤ r.toInt ∧ (k0.toInt = y1.toInt ∨ k1.toInt = y1.toInt ∨ k2.toInt = y1.toInt ∨ k3.toInt = y1.toInt)) ∨ (r.toInt < 0 ∧ ¬ (k0.toInt = y1.toInt ∨ k1.toInt = y1.toInt ∨ k2.toInt = y1.toInt ∨ k3.toInt = y1.toInt))) ∧ h0 = h') := by
  refine OCon.mk (plainFor_of_name own_pn4) Z0 ?_
  intro p e s m below meth cd s₁ W0
  refine OF.cast (own_ef7_4L m b0 y1 (0 : Int32)) ?_
  have c_1___Int32_ : (1 : Int32).toInt = 1 := rfl
  refine o_aloadN W0 own_d7_0 (v := (.ref b0)) rfl rfl (pc' := 1) rfl ?_
  refine o_callV W0 E0 (rm8_L l Z a0 hw b0 h0 n0 W0.le cs fm ST hcs Fc) (ow hw 41 rfl) (ow hw 42 rfl) (notFace_of_selects (args := #[]) (mvT W0.hZ (ow hw 44 rfl))) (ow hw 44 rfl) (ow hw 43 rfl) (ow hw 8 rfl) (ow hw 45 rfl) (by decide) (argsL := []) (S := []) (lenOf own_pd4 rfl) rfl rfl rfl (wt := 0) rfl (by decide) (by decide) (by decide) (by decide) (kk' := 0) rfl (nn' := 0) rfl own_d7_1 (pc' := 4) rfl ?_
  intro vv T389 h389 W389 q389 z389
  obtain ⟨r389, rfl, q389⟩ := q389
  show OF _ _ _ _ _ _ _ T389 (mkF m 4 #[.val (.ref b0), .val (.int y1), .val (.int (0 : Int32))] [(.int r389)])
  obtain ⟨q389, rfl⟩ := q389
  obtain rfl : r389 = (1 : Int32) := q389
  refine o_if_eq W389 own_d7_4 (by decide) (pq := 23) (by decide) (pc' := 7) rfl (fun hc4 => ?_) (fun hc4 => ?_)
  · exact absurd hc4 (by decide)
  · refine o_aloadN W389 own_d7_7 (v := (.ref b0)) rfl rfl (pc' := 8) rfl ?_
    refine o_getF W389 (ow hw 25 rfl) Fv own_d7_8 (pc' := 11) rfl ?_
    intro T390 W390
    refine o_iloadN W390 own_d7_11 (v := y1) rfl (pc' := 12) rfl ?_
    refine o_iloadN W390 own_d7_12 (v := (0 : Int32)) rfl (pc' := 13) rfl ?_
    refine o_aloadN W390 own_d7_13 (v := (.ref b0)) rfl rfl (pc' := 14) rfl ?_
    refine o_callV W390 E0 (rm9_4L l Z a0 hw b0 h0 n0 W390.le cs fm ST hcs k0 k1 k2 k3 b1 E0 Fv Fc A1) (ow hw 47 rfl) (ow hw 48 rfl) (notFace_of_selects (args := #[]) (mvT W390.hZ (ow hw 50 rfl))) (ow hw 50 rfl) (ow hw 49 rfl) (ow hw 8 rfl) (ow hw 51 rfl) (by decide) (argsL := []) (S := [(.int (0 : Int32)), (.int y1), (.ref b1)]) (lenOf own_pd5 rfl) rfl rfl rfl (wt := 3) rfl (by decide) (by decide) (by decide) (by decide) (kk' := 0) rfl (nn' := 0) rfl own_d7_14 (pc' := 17) rfl ?_
    intro vv T391 h391 W391 q391 z391
    obtain ⟨r391, rfl, q391⟩ := q391
    show OF _ _ _ _ _ _ _ T391 (mkF m 17 #[.val (.ref b0), .val (.int y1), .val (.int (0 : Int32))] [(.int r391), (.int (0 : Int32)), (.int y1), (.ref b1)])
    obtain ⟨q391, rfl⟩ := q391
    obtain rfl : r391 = (4 : Int32) := q391
    refine o_callSI W391 (rm11_4 l Z a0 hw b1 y1 h0 n0 W391.le hy k0 k1 k2 k3 hk0 hk1 hk2 hk3 hall A1) (ow hw 57 rfl) (ow hw 58 rfl) (ow hw 59 rfl) (ow hw 60 rfl) (by decide) (argsL := [(.ref b1), (.int y1), (.int (0 : Int32)), (.int (4 : Int32))]) (S := []) (lenOf own_pd6 rfl) rfl rfl rfl (wt := 0) rfl (by decide) (by decide) (by decide) (by decide) (kk' := 0) rfl (nn' := 0) rfl own_d7_17 (pc' := 20) rfl ?_
    intro r392 T392 h392 W392 q392 z392
    obtain ⟨q392, rfl⟩ := q392
    refine o_goto W392 own_d7_20 (by decide) (pq := 36) (by decide) ?_
    refine o_retI W392 rfl own_d7_36 (by decide) (by decide) ?_
    exact ⟨_, rfl, q392, rfl⟩
theorem own_ef6_4L (m : MethodId) (z0 : Addr) (z1 : Int32) : entryFrame m #[(.ref z0), (.int z1)] 2 = mkF m 0 #[.val (.ref z0), .val (.int z1)] [] := by first | (simp [entryFrame, mkF, argsToLocals, Value.category]; done) | rfl
set_option maxRecDepth 65536 in
set_option maxHeartbeats 4000000 in
theorem rm6_4L (l : Launch) (Z : State) (a0 : Array Value) (hw : ∀ d ∈ tables_1, d.before a0 Z = true) (b0 : Addr) (y1 : Int32) (h0 : Heap) (n0 : Nat) (Z0 : n0 ≤ h0.size) (hy : 0 ≤ y1.toInt ∧ y1.toInt < 128) (cs : Int32) (fm : Value) (ST : OSt Z h0 cs fm) (hcs : ¬ cs.toInt = 0) (hfm : fm.isRef = true) (k0 k1 k2 k3 : Int32) (hk0 : 0 ≤ k0.toInt ∧ k0.toInt ≤ 65535) (hk1 : 0 ≤ k1.toInt ∧ k1.toInt ≤ 65535) (hk2 : 0 ≤ k2.toInt ∧ k2.toInt ≤ 65535) (hk3 : 0 ≤ k3.toInt ∧ k3.toInt ≤ 65535) (hall : k0.toInt ≤ 255 ∧ k1.toInt ≤ 255 ∧ k2.toInt ≤ 255 ∧ k3.toInt ≤ 255) (b1 : Addr) (E0 : Exa Z h0 b0 "java/lang/String") (Fv : Fld Z h0 b0 "java/lang/String" "value" "[B" (.ref b1)) (Fc : Fld Z h0 b0 "java/lang/String" "coder" "B" (.int (0 : Int32))) (A1 : OA Z h0 b1 .byte [own_b k0, own_b k1, own_b k2, own_b k3]) :
    OCon l Z (⟨"java/lang/String", "indexOf", "(I)I"⟩ : MethodName) jdk_42_method_79_code 2 (some .int) [] ({ frames := 6, cells := 0, slots := 0, locals := 87 } : Room) #[(.ref b0), (.int y1)] h0 n0 (QI fun r h' => ((0 ≤ r.toInt ∧ (k0.toInt = y1.toInt ∨ k1.toInt = y1.toInt ∨ k2.toInt = y1.toInt ∨ k3.toInt = y1.toInt)) ∨ (r.toInt < 0 ∧ ¬ (k0.toInt = y1.toInt ∨ k1.toInt = y1.toInt ∨ k2.toInt = y1.toInt ∨ k3.toInt = y1.toInt))) ∧ h0 = h') := by
  refine OCon.mk (plainFor_of_name own_pn4) Z0 ?_
  intro p e s m below meth cd s₁ W0
  refine OF.cast (own_ef6_4L m b0 y1) ?_
  refine o_aloadN W0 own_d6_0 (v := (.ref b0)) rfl rfl (pc' := 1) rfl ?_
  refine o_iloadN W0 own_d6_1 (v := y1) rfl (pc' := 2) rfl ?_
  refine o_iconst W0 (v := (0 : Int32)) own_d6_2 rfl (pc' := 3) rfl ?_
  refine o_callV W0 E0 (rm7_4L l Z a0 hw b0 y1 h0 n0 W0.le hy cs fm ST hcs hfm k0 k1 k2 k3 hk0 hk1 hk2 hk3 hall b1 E0 Fv Fc A1) (ow hw 36 rfl) (ow hw 37 rfl) (notFace_of_selects (args := #[]) (mvT W0.hZ (ow hw 39 rfl))) (ow hw 39 rfl) (ow hw 38 rfl) (ow hw 8 rfl) (ow hw 40 rfl) (by decide) (argsL := [(.int y1), (.int (0 : Int32))]) (S := []) (lenOf own_pd3 rfl) rfl rfl rfl (wt := 0) rfl (by decide) (by decide) (by decide) (by decide) (kk' := 0) rfl (nn' := 0) rfl own_d6_3 (pc' := 6) rfl ?_
  intro vv T393 h393 W393 q393 z393
  obtain ⟨r393, rfl, q393⟩ := q393
  show OF _ _ _ _ _ _ _ T393 (mkF m 6 #[.val (.ref b0), .val (.int y1)] [(.int r393)])
  obtain ⟨q393, rfl⟩ := q393
  refine o_retI W393 rfl own_d6_6 (by decide) (by decide) ?_
  exact ⟨_, rfl, q393, rfl⟩
theorem own_ef5_4L (m : MethodId) (z0 : Addr) : entryFrame m #[(.ref z0)] 1 = mkF m 0 #[.val (.ref z0)] [] := by first | (simp [entryFrame, mkF, argsToLocals, Value.category]; done) | rfl
set_option maxRecDepth 65536 in
set_option maxHeartbeats 4000000 in
theorem rm5_4L (l : Launch) (Z : State) (a0 : Array Value) (hw : ∀ d ∈ tables_1, d.before a0 Z = true) (b0 : Addr) (h0 : Heap) (n0 : Nat) (Z0 : n0 ≤ h0.size) (cs : Int32) (fm : Value) (ST : OSt Z h0 cs fm) (hcs : ¬ cs.toInt = 0) (hfm : fm.isRef = true) (k0 k1 k2 k3 : Int32) (hk0 : 0 ≤ k0.toInt ∧ k0.toInt ≤ 65535) (hk1 : 0 ≤ k1.toInt ∧ k1.toInt ≤ 65535) (hk2 : 0 ≤ k2.toInt ∧ k2.toInt ≤ 65535) (hk3 : 0 ≤ k3.toInt ∧ k3.toInt ≤ 65535) (hall : k0.toInt ≤ 255 ∧ k1.toInt ≤ 255 ∧ k2.toInt ≤ 255 ∧ k3.toInt ≤ 255) (b1 : Addr) (E0 : Exa Z h0 b0 "java/lang/String") (Fv : Fld Z h0 b0 "java/lang/String" "value" "[B" (.ref b1)) (Fc : Fld Z h0 b0 "java/lang/String" "coder" "B" (.int (0 : Int32))) (A1 : OA Z h0 b1 .byte [own_b k0, own_b k1, own_b k2, own_b k3]) :
    OCon l Z (⟨"com/example/austere_access/austereaccess/policy/Glob", "isLiteral", "(Ljava/lang/String;)Z"⟩ : MethodName) prog_39_method_2_code 1 (some .boolean) [] ({ frames := 7, cells := 0, slots := 0, locals := 100 } : Room) #[(.ref b0)] h0 n0 (QI fun r h' => ((r = 1 ∧ ¬ (k0.toInt = 42 ∨ k0.toInt = 63 ∨ k1.toInt = 42 ∨ k1.toInt = 63 ∨ k2.toInt = 42 ∨ k2.toInt = 63 ∨ k3.toInt = 42 ∨ k3.toInt = 63)) ∨ (r = 0 ∧ (k0.toInt = 42 ∨ k0.toInt = 63 ∨ k1.toInt = 42 ∨ k1.toInt = 63 ∨ k2.toInt = 42 ∨ k2.toInt = 63 ∨ k3.toInt = 42 ∨ k3.toInt = 63))) ∧ h0 = h') := by
  refine OCon.mk (plainFor_of_name own_pn5) Z0 ?_
  intro p e s m below meth cd s₁ W0
  refine OF.cast (own_ef5_4L m b0) ?_
  have c42 : (42 : Int32).toInt = 42 := rfl
  have c63 : (63 : Int32).toInt = 63 := rfl
  refine o_aloadN W0 own_d5_0 (v := (.ref b0)) rfl rfl (pc' := 1) rfl ?_
  refine o_bipush W0 (v := (42 : Int32)) own_d5_1 rfl (pc' := 3) rfl ?_
  refine o_callV W0 E0 (rm6_4L l Z a0 hw b0 (42 : Int32) h0 n0 W0.le (by decide) cs fm ST hcs hfm k0 k1 k2 k3 hk0 hk1 hk2 hk3 hall b1 E0 Fv Fc A1) (ow hw 31 rfl) (ow hw 32 rfl) (notFace_of_selects (args := #[]) (mvT W0.hZ (ow hw 34 rfl))) (ow hw 34 rfl) (ow hw 33 rfl) (ow hw 8 rfl) (ow hw 35 rfl) (by decide) (argsL := [(.int (42 : Int32))]) (S := []) (lenOf own_pd7 rfl) rfl rfl rfl (wt := 0) rfl (by decide) (by decide) (by decide) (by decide) (kk' := 0) rfl (nn' := 0) rfl own_d5_3 (pc' := 6) rfl ?_
  intro vv T394 h394 W394 q394 z394
  obtain ⟨r394, rfl, q394⟩ := q394
  show OF _ _ _ _ _ _ _ T394 (mkF m 6 #[.val (.ref b0)] [(.int r394)])
  obtain ⟨q394, rfl⟩ := q394
  refine o_if_ge W394 own_d5_6 (by decide) (pq := 22) (by decide) (pc' := 9) rfl (fun hc6 => ?_) (fun hc6 => ?_)
  · refine o_iconst W394 (v := (0 : Int32)) own_d5_22 rfl (pc' := 23) rfl ?_
    refine o_retN W394 (t := .boolean) rfl (by simp) own_d5_23 (by decide) (by decide) ?_
    exact ⟨(0 : Int32), rfl, Or.inr ⟨rfl, by omega⟩, rfl⟩
  · refine o_aloadN W394 own_d5_9 (v := (.ref b0)) rfl rfl (pc' := 10) rfl ?_
    refine o_bipush W394 (v := (63 : Int32)) own_d5_10 rfl (pc' := 12) rfl ?_
    refine o_callV W394 E0 (rm6_4L l Z a0 hw b0 (63 : Int32) h0 n0 W394.le (by decide) cs fm ST hcs hfm k0 k1 k2 k3 hk0 hk1 hk2 hk3 hall b1 E0 Fv Fc A1) (ow hw 31 rfl) (ow hw 32 rfl) (notFace_of_selects (args := #[]) (mvT W394.hZ (ow hw 34 rfl))) (ow hw 34 rfl) (ow hw 33 rfl) (ow hw 8 rfl) (ow hw 35 rfl) (by decide) (argsL := [(.int (63 : Int32))]) (S := []) (lenOf own_pd7 rfl) rfl rfl rfl (wt := 0) rfl (by decide) (by decide) (by decide) (by decide) (kk' := 0) rfl (nn' := 0) rfl own_d5_12 (pc' := 15) rfl ?_
    intro vv T395 h395 W395 q395 z395
    obtain ⟨r395, rfl, q395⟩ := q395
    show OF _ _ _ _ _ _ _ T395 (mkF m 15 #[.val (.ref b0)] [(.int r395)])
    obtain ⟨q395, rfl⟩ := q395
    refine o_if_ge W395 own_d5_15 (by decide) (pq := 22) (by decide) (pc' := 18) rfl (fun hc15 => ?_) (fun hc15 => ?_)
    · refine o_iconst W395 (v := (0 : Int32)) own_d5_22 rfl (pc' := 23) rfl ?_
      refine o_retN W395 (t := .boolean) rfl (by simp) own_d5_23 (by decide) (by decide) ?_
      exact ⟨(0 : Int32), rfl, Or.inr ⟨rfl, by omega⟩, rfl⟩
    · refine o_iconst W395 (v := (1 : Int32)) own_d5_18 rfl (pc' := 19) rfl ?_
      refine o_goto W395 own_d5_19 (by decide) (pq := 23) (by decide) ?_
      refine o_retN W395 (t := .boolean) rfl (by simp) own_d5_23 (by decide) (by decide) ?_
      exact ⟨(1 : Int32), rfl, Or.inl ⟨rfl, by omega⟩, rfl⟩
theorem own_ef9_4U (m : MethodId) (z0 : Addr) : entryFrame m #[(.ref z0)] 1 = mkF m 0 #[.val (.ref z0)] [] := by first | (simp [entryFrame, mkF, argsToLocals, Value.category]; done) | rfl
set_option maxRecDepth 65536 in
set_option maxHeartbeats 4000000 in
theorem rm9_4U (l : Launch) (Z : State) (a0 : Array Value) (hw : ∀ d ∈ tables_1, d.before a0 Z = true) (b0 : Addr) (h0 : Heap) (n0 : Nat) (Z0 : n0 ≤ h0.size) (cs : Int32) (fm : Value) (ST : OSt Z h0 cs fm) (hcs : ¬ cs.toInt = 0) (k0 k1 k2 k3 : Int32) (b1 : Addr) (E0 : Exa Z h0 b0 "java/lang/String") (Fv : Fld Z h0 b0 "java/lang/String" "value" "[B" (.ref b1)) (Fc : Fld Z h0 b0 "java/lang/String" "coder" "B" (.int (1 : Int32))) (A1 : OA Z h0 b1 .byte [own_lo k0, own_hi k0, own_lo k1, own_hi k1, own_lo k2, own_hi k2, own_lo k3, own_hi k3]) :
    OCon l Z (⟨"java/lang/String", "length", "()I"⟩ : MethodName) jdk_42_method_54_code 1 (some .int) [] ({ frames := 1, cells := 0, slots := 0, locals := 13 } : Room) #[(.ref b0)] h0 n0 (QI fun r h' => r = (4 : Int32) ∧ h0 = h') := by
  refine OCon.mk (plainFor_of_name own_pn4) Z0 ?_
  intro p e s m below meth cd s₁ W0
  refine OF.cast (own_ef9_4U m b0) ?_
  refine o_aloadN W0 own_d9_0 (v := (.ref b0)) rfl rfl (pc' := 1) rfl ?_
  refine o_getF W0 (ow hw 25 rfl) Fv own_d9_1 (pc' := 4) rfl ?_
  intro T396 W396
  refine o_arraylength W396 A1 own_d9_4 (pc' := 5) rfl ?_
  intro v397 hv397
  obtain rfl : v397 = (8 : Int32) := o_eq (y := (8 : Int32)) hv397
  refine o_aloadN W396 own_d9_5 (v := (.ref b0)) rfl rfl (pc' := 6) rfl ?_
  refine o_callV W396 E0 (rm10_U l Z a0 hw b0 h0 n0 W396.le cs fm ST hcs Fc) (ow hw 52 rfl) (ow hw 53 rfl) (notFace_of_selects (args := #[]) (mvT W396.hZ (ow hw 55 rfl))) (ow hw 55 rfl) (ow hw 54 rfl) (ow hw 8 rfl) (ow hw 56 rfl) (by decide) (argsL := []) (S := [(.int (8 : Int32))]) (lenOf own_pd1 rfl) rfl rfl rfl (wt := 1) rfl (by decide) (by decide) (by decide) (by decide) (kk' := 0) rfl (nn' := 0) rfl own_d9_6 (pc' := 9) rfl ?_
  intro vv T398 h398 W398 q398 z398
  obtain ⟨r398, rfl, q398⟩ := q398
  show OF _ _ _ _ _ _ _ T398 (mkF m 9 #[.val (.ref b0)] [(.int r398), (.int (8 : Int32))])
  obtain ⟨q398, rfl⟩ := q398
  obtain rfl : r398 = (1 : Int32) := q398
  refine o_ishr W398 own_d9_9 (pc' := 10) rfl ?_
  show OF _ _ _ _ _ _ _ T398 (mkF m 10 #[.val (.ref b0)] [(.int (4 : Int32))])
  refine o_retI W398 rfl own_d9_10 (by decide) (by decide) ?_
  exact ⟨_, rfl, rfl, rfl⟩
theorem own_ef28_4 (m : MethodId) (z0 : Addr) : entryFrame m #[(.ref z0)] 1 = mkF m 0 #[.val (.ref z0)] [] := by first | (simp [entryFrame, mkF, argsToLocals, Value.category]; done) | rfl
set_option maxRecDepth 65536 in
set_option maxHeartbeats 4000000 in
theorem rm28_4 (l : Launch) (Z : State) (a0 : Array Value) (hw : ∀ d ∈ tables_1, d.before a0 Z = true) (b1 : Addr) (h0 : Heap) (n0 : Nat) (Z0 : n0 ≤ h0.size) (k0 k1 k2 k3 : Int32) (A1 : OA Z h0 b1 .byte [own_lo k0, own_hi k0, own_lo k1, own_hi k1, own_lo k2, own_hi k2, own_lo k3, own_hi k3]) :
    OCon l Z (⟨"java/lang/StringUTF16", "length", "([B)I"⟩ : MethodName) jdk_52_method_6_code 1 (some .int) [] ({ frames := 0, cells := 0, slots := 0, locals := 0 } : Room) #[(.ref b1)] h0 n0 (QI fun r h' => r = (4 : Int32) ∧ h0 = h') := by
  refine OCon.mk (plainFor_of_name own_pn2) Z0 ?_
  intro p e s m below meth cd s₁ W0
  refine OF.cast (own_ef28_4 m b1) ?_
  refine o_aloadN W0 own_d28_0 (v := (.ref b1)) rfl rfl (pc' := 1) rfl ?_
  refine o_arraylength W0 A1 own_d28_1 (pc' := 2) rfl ?_
  intro v399 hv399
  obtain rfl : v399 = (8 : Int32) := o_eq (y := (8 : Int32)) hv399
  refine o_iconst W0 (v := (1 : Int32)) own_d28_2 rfl (pc' := 3) rfl ?_
  refine o_ishr W0 own_d28_3 (pc' := 4) rfl ?_
  show OF _ _ _ _ _ _ _ s₁ (mkF m 4 #[.val (.ref b1)] [(.int (4 : Int32))])
  refine o_retI W0 rfl own_d28_4 (by decide) (by decide) ?_
  exact ⟨_, rfl, rfl, rfl⟩
theorem own_ef27_4 (m : MethodId) (z0 : Int32) (z1 : Int32) (z2 : Addr) : entryFrame m #[(.int z0), (.int z1), (.ref z2)] 3 = mkF m 0 #[.val (.int z0), .val (.int z1), .val (.ref z2)] [] := by first | (simp [entryFrame, mkF, argsToLocals, Value.category]; done) | rfl
set_option maxRecDepth 65536 in
set_option maxHeartbeats 4000000 in
theorem rm27_4 (l : Launch) (Z : State) (a0 : Array Value) (hw : ∀ d ∈ tables_1, d.before a0 Z = true) (b1 : Addr) (h0 : Heap) (n0 : Nat) (Z0 : n0 ≤ h0.size) (cs : Int32) (fm : Value) (ST : OSt Z h0 cs fm) (hfm : fm.isRef = true) (k0 k1 k2 k3 : Int32) (A1 : OA Z h0 b1 .byte [own_lo k0, own_hi k0, own_lo k1, own_hi k1, own_lo k2, own_hi k2, own_lo k3, own_hi k3]) :
    OCon l Z (⟨"java/lang/StringUTF16", "checkBoundsBeginEnd", "(II[B)V"⟩ : MethodName) jdk_52_method_93_code 3 none [] ({ frames := 2, cells := 0, slots := 0, locals := 29 } : Room) #[(.int (0 : Int32)), (.int (4 : Int32)), (.ref b1)] h0 n0 (QV fun h' => h0 = h') := by
  refine OCon.mk (plainFor_of_name own_pn2) Z0 ?_
  intro p e s m below meth cd s₁ W0
  refine OF.cast (own_ef27_4 m (0 : Int32) (4 : Int32) b1) ?_
  refine o_iloadN W0 own_d27_0 (v := (0 : Int32)) rfl (pc' := 1) rfl ?_
  refine o_iloadN W0 own_d27_1 (v := (4 : Int32)) rfl (pc' := 2) rfl ?_
  refine o_aloadN W0 own_d27_2 (v := (.ref b1)) rfl rfl (pc' := 3) rfl ?_
  refine o_callSI W0 (rm28_4 l Z a0 hw b1 h0 n0 W0.le k0 k1 k2 k3 A1) (ow hw 118 rfl) (ow hw 119 rfl) (ow hw 73 rfl) (ow hw 120 rfl) (by decide) (argsL := [(.ref b1)]) (S := [(.int (4 : Int32)), (.int (0 : Int32))]) (lenOf own_pd15 rfl) rfl rfl rfl (wt := 2) rfl (by decide) (by decide) (by decide) (by decide) (kk' := 0) rfl (nn' := 0) rfl own_d27_3 (pc' := 6) rfl ?_
  intro r400 T400 h400 W400 q400 z400
  obtain ⟨q400, rfl⟩ := q400
  obtain rfl : r400 = (4 : Int32) := q400
  refine o_callS W400 (rm29 l Z a0 hw (0 : Int32) (4 : Int32) (4 : Int32) h0 n0 W400.le cs fm ST hfm (by decide)) (ow hw 121 rfl) (ow hw 122 rfl) (ow hw 8 rfl) (ow hw 123 rfl) (by decide) (argsL := [(.int (0 : Int32)), (.int (4 : Int32)), (.int (4 : Int32))]) (S := []) (lenOf own_pd16 rfl) rfl rfl rfl (wt := 0) rfl (by decide) (by decide) (by decide) (by decide) (kk' := 0) rfl (nn' := 0) rfl own_d27_6 (pc' := 9) rfl ?_
  intro r401 T401 h401 W401 q401 z401
  obtain ⟨rfl, q401⟩ := q401
  show OF _ _ _ _ _ _ _ T401 (mkF m 9 #[.val (.int (0 : Int32)), .val (.int (4 : Int32)), .val (.ref b1)] [])
  obtain rfl := q401
  refine o_retV W401 rfl own_d27_9 (by decide) (by decide) ?_
  exact ⟨rfl, rfl⟩
theorem own_ef31_4 (m : MethodId) (z0 : Addr) (z1 : Int32) (z2 : Int32) (z3 : Int32) : entryFrame m #[(.ref z0), (.int z1), (.int z2), (.int z3)] 5 = mkF m 0 #[.val (.ref z0), .val (.int z1), .val (.int z2), .val (.int z3), .unset] [] := by first | (simp [entryFrame, mkF, argsToLocals, Value.category]; done) | rfl
set_option maxRecDepth 65536 in
set_option maxHeartbeats 4000000 in
theorem rm31_4 (l : Launch) (Z : State) (a0 : Array Value) (hw : ∀ d ∈ tables_1, d.before a0 Z = true) (b1 : Addr) (y1 : Int32) (h0 : Heap) (n0 : Nat) (Z0 : n0 ≤ h0.size) (cs : Int32) (fm : Value) (ST : OSt Z h0 cs fm) (hy : 0 ≤ y1.toInt ∧ y1.toInt < 128) (k0 k1 k2 k3 : Int32) (hk0 : 0 ≤ k0.toInt ∧ k0.toInt ≤ 65535) (hk1 : 0 ≤ k1.toInt ∧ k1.toInt ≤ 65535) (hk2 : 0 ≤ k2.toInt ∧ k2.toInt ≤ 65535) (hk3 : 0 ≤ k3.toInt ∧ k3.toInt ≤ 65535) (A1 : OA Z h0 b1 .byte [own_lo k0, own_hi k0, own_lo k1, own_hi k1, own_lo k2, own_hi k2, own_lo k3, own_hi k3]) :
    OCon l Z (⟨"java/lang/StringUTF16", "indexOfCharUnsafe", "([BIII)I"⟩ : MethodName) jdk_52_method_48_code 5 (some .int) [] ({ frames := 1, cells := 0, slots := 0, locals := 13 } : Room) #[(.ref b1), (.int y1), (.int (0 : Int32)), (.int (4 : Int32))] h0 n0 (QI fun r h' => ((0 ≤ r.toInt ∧ (k0.toInt = y1.toInt ∨ k1.toInt = y1.toInt ∨ k2.toInt = y1.toInt ∨ k3.toInt = y1.toInt)) ∨ (r.toInt < 0 ∧ ¬ (k0.toInt = y1.toInt ∨ k1.toInt = y1.toInt ∨ k2.toInt = y1.toInt ∨ k3.toInt = y1.toInt))) ∧ h0 = h') := by
  refine OCon.mk (plainFor_of_name own_pn2) Z0 ?_
  intro p e s m below meth cd s₁ W0
  refine OF.cast (own_ef31_4 m b1 y1 (0 : Int32) (4 : Int32)) ?_
  have cm1 : (-1 : Int32).toInt = -1 := rfl
  have ci0 : (0 : Int32).toInt = 0 := rfl
  have ci1 : (1 : Int32).toInt = 1 := rfl
  have ci2 : (2 : Int32).toInt = 2 := rfl
  have ci3 : (3 : Int32).toInt = 3 := rfl
  have ci4 : (4 : Int32).toInt = 4 := rfl
  refine o_iloadN W0 own_d31_0 (v := (0 : Int32)) rfl (pc' := 1) rfl ?_
  refine o_istore W0 (L' := #[.val (.ref b1), .val (.int y1), .val (.int (0 : Int32)), .val (.int (4 : Int32)), .val (.int (0 : Int32))]) own_d31_1 rfl (pc' := 3) rfl ?_
  refine o_iload W0 own_d31_3 (v := (0 : Int32)) rfl (pc' := 5) rfl ?_
  refine o_iloadN W0 own_d31_5 (v := (4 : Int32)) rfl (pc' := 6) rfl ?_
  refine o_icmp_ge W0 own_d31_6 (by decide) (pq := 28) (by decide) (pc' := 9) rfl (fun hc6 => ?_) (fun hc6 => ?_)
  · exact absurd hc6 (by decide)
  · refine o_aloadN W0 own_d31_9 (v := (.ref b1)) rfl rfl (pc' := 10) rfl ?_
    refine o_iload W0 own_d31_10 (v := (0 : Int32)) rfl (pc' := 12) rfl ?_
    refine o_callSI W0 (rm24 l Z a0 hw b1 (0 : Int32) h0 n0 W0.le cs fm ST _ 0 _ _ A1 rfl (by decide) rfl rfl) (ow hw 103 rfl) (ow hw 104 rfl) (ow hw 73 rfl) (ow hw 105 rfl) (by decide) (argsL := [(.ref b1), (.int (0 : Int32))]) (S := []) (lenOf own_pd12 rfl) rfl rfl rfl (wt := 0) rfl (by decide) (by decide) (by decide) (by decide) (kk' := 0) rfl (nn' := 0) rfl own_d31_12 (pc' := 15) rfl ?_
    intro r402 T402 h402 W402 q402 z402
    obtain ⟨q402, rfl⟩ := q402
    obtain rfl : r402 = k0 := q402.trans (own_gcv k0 hk0.1 hk0.2)
    refine o_iloadN W402 own_d31_15 (v := y1) rfl (pc' := 16) rfl ?_
    refine o_icmp_ne W402 own_d31_16 (by decide) (pq := 22) (by decide) (pc' := 19) rfl (fun hc16 => ?_) (fun hc16 => ?_)
    · refine o_iinc W402 (x := (0 : Int32)) (L' := #[.val (.ref b1), .val (.int y1), .val (.int (0 : Int32)), .val (.int (4 : Int32)), .val (.int ((0 : Int32) + (1 : Int32)))]) own_d31_22 rfl rfl (pc' := 25) rfl ?_
      show OF _ _ _ _ _ _ _ T402 (mkF m 25 #[.val (.ref b1), .val (.int y1), .val (.int (0 : Int32)), .val (.int (4 : Int32)), .val (.int (1 : Int32))] [])
      refine o_goto W402 own_d31_25 (by decide) (pq := 3) (by decide) ?_
      refine o_iload W402 own_d31_3 (v := (1 : Int32)) rfl (pc' := 5) rfl ?_
      refine o_iloadN W402 own_d31_5 (v := (4 : Int32)) rfl (pc' := 6) rfl ?_
      refine o_icmp_ge W402 own_d31_6 (by decide) (pq := 28) (by decide) (pc' := 9) rfl (fun hc6 => ?_) (fun hc6 => ?_)
      · exact absurd hc6 (by decide)
      · refine o_aloadN W402 own_d31_9 (v := (.ref b1)) rfl rfl (pc' := 10) rfl ?_
        refine o_iload W402 own_d31_10 (v := (1 : Int32)) rfl (pc' := 12) rfl ?_
        refine o_callSI W402 (rm24 l Z a0 hw b1 (1 : Int32) h0 n0 W402.le cs fm ST _ 1 _ _ A1 rfl (by decide) rfl rfl) (ow hw 103 rfl) (ow hw 104 rfl) (ow hw 73 rfl) (ow hw 105 rfl) (by decide) (argsL := [(.ref b1), (.int (1 : Int32))]) (S := []) (lenOf own_pd12 rfl) rfl rfl rfl (wt := 0) rfl (by decide) (by decide) (by decide) (by decide) (kk' := 0) rfl (nn' := 0) rfl own_d31_12 (pc' := 15) rfl ?_
        intro r403 T403 h403 W403 q403 z403
        obtain ⟨q403, rfl⟩ := q403
        obtain rfl : r403 = k1 := q403.trans (own_gcv k1 hk1.1 hk1.2)
        refine o_iloadN W403 own_d31_15 (v := y1) rfl (pc' := 16) rfl ?_
        refine o_icmp_ne W403 own_d31_16 (by decide) (pq := 22) (by decide) (pc' := 19) rfl (fun hc16 => ?_) (fun hc16 => ?_)
        · refine o_iinc W403 (x := (1 : Int32)) (L' := #[.val (.ref b1), .val (.int y1), .val (.int (0 : Int32)), .val (.int (4 : Int32)), .val (.int ((1 : Int32) + (1 : Int32)))]) own_d31_22 rfl rfl (pc' := 25) rfl ?_
          show OF _ _ _ _ _ _ _ T403 (mkF m 25 #[.val (.ref b1), .val (.int y1), .val (.int (0 : Int32)), .val (.int (4 : Int32)), .val (.int (2 : Int32))] [])
          refine o_goto W403 own_d31_25 (by decide) (pq := 3) (by decide) ?_
          refine o_iload W403 own_d31_3 (v := (2 : Int32)) rfl (pc' := 5) rfl ?_
          refine o_iloadN W403 own_d31_5 (v := (4 : Int32)) rfl (pc' := 6) rfl ?_
          refine o_icmp_ge W403 own_d31_6 (by decide) (pq := 28) (by decide) (pc' := 9) rfl (fun hc6 => ?_) (fun hc6 => ?_)
          · exact absurd hc6 (by decide)
          · refine o_aloadN W403 own_d31_9 (v := (.ref b1)) rfl rfl (pc' := 10) rfl ?_
            refine o_iload W403 own_d31_10 (v := (2 : Int32)) rfl (pc' := 12) rfl ?_
            refine o_callSI W403 (rm24 l Z a0 hw b1 (2 : Int32) h0 n0 W403.le cs fm ST _ 2 _ _ A1 rfl (by decide) rfl rfl) (ow hw 103 rfl) (ow hw 104 rfl) (ow hw 73 rfl) (ow hw 105 rfl) (by decide) (argsL := [(.ref b1), (.int (2 : Int32))]) (S := []) (lenOf own_pd12 rfl) rfl rfl rfl (wt := 0) rfl (by decide) (by decide) (by decide) (by decide) (kk' := 0) rfl (nn' := 0) rfl own_d31_12 (pc' := 15) rfl ?_
            intro r404 T404 h404 W404 q404 z404
            obtain ⟨q404, rfl⟩ := q404
            obtain rfl : r404 = k2 := q404.trans (own_gcv k2 hk2.1 hk2.2)
            refine o_iloadN W404 own_d31_15 (v := y1) rfl (pc' := 16) rfl ?_
            refine o_icmp_ne W404 own_d31_16 (by decide) (pq := 22) (by decide) (pc' := 19) rfl (fun hc16 => ?_) (fun hc16 => ?_)
            · refine o_iinc W404 (x := (2 : Int32)) (L' := #[.val (.ref b1), .val (.int y1), .val (.int (0 : Int32)), .val (.int (4 : Int32)), .val (.int ((2 : Int32) + (1 : Int32)))]) own_d31_22 rfl rfl (pc' := 25) rfl ?_
              show OF _ _ _ _ _ _ _ T404 (mkF m 25 #[.val (.ref b1), .val (.int y1), .val (.int (0 : Int32)), .val (.int (4 : Int32)), .val (.int (3 : Int32))] [])
              refine o_goto W404 own_d31_25 (by decide) (pq := 3) (by decide) ?_
              refine o_iload W404 own_d31_3 (v := (3 : Int32)) rfl (pc' := 5) rfl ?_
              refine o_iloadN W404 own_d31_5 (v := (4 : Int32)) rfl (pc' := 6) rfl ?_
              refine o_icmp_ge W404 own_d31_6 (by decide) (pq := 28) (by decide) (pc' := 9) rfl (fun hc6 => ?_) (fun hc6 => ?_)
              · exact absurd hc6 (by decide)
              · refine o_aloadN W404 own_d31_9 (v := (.ref b1)) rfl rfl (pc' := 10) rfl ?_
                refine o_iload W404 own_d31_10 (v := (3 : Int32)) rfl (pc' := 12) rfl ?_
                refine o_callSI W404 (rm24 l Z a0 hw b1 (3 : Int32) h0 n0 W404.le cs fm ST _ 3 _ _ A1 rfl (by decide) rfl rfl) (ow hw 103 rfl) (ow hw 104 rfl) (ow hw 73 rfl) (ow hw 105 rfl) (by decide) (argsL := [(.ref b1), (.int (3 : Int32))]) (S := []) (lenOf own_pd12 rfl) rfl rfl rfl (wt := 0) rfl (by decide) (by decide) (by decide) (by decide) (kk' := 0) rfl (nn' := 0) rfl own_d31_12 (pc' := 15) rfl ?_
                intro r405 T405 h405 W405 q405 z405
                obtain ⟨q405, rfl⟩ := q405
                obtain rfl : r405 = k3 := q405.trans (own_gcv k3 hk3.1 hk3.2)
                refine o_iloadN W405 own_d31_15 (v := y1) rfl (pc' := 16) rfl ?_
                refine o_icmp_ne W405 own_d31_16 (by decide) (pq := 22) (by decide) (pc' := 19) rfl (fun hc16 => ?_) (fun hc16 => ?_)
                · refine o_iinc W405 (x := (3 : Int32)) (L' := #[.val (.ref b1), .val (.int y1), .val (.int (0 : Int32)), .val (.int (4 : Int32)), .val (.int ((3 : Int32) + (1 : Int32)))]) own_d31_22 rfl rfl (pc' := 25) rfl ?_
                  show OF _ _ _ _ _ _ _ T405 (mkF m 25 #[.val (.ref b1), .val (.int y1), .val (.int (0 : Int32)), .val (.int (4 : Int32)), .val (.int (4 : Int32))] [])
                  refine o_goto W405 own_d31_25 (by decide) (pq := 3) (by decide) ?_
                  refine o_iload W405 own_d31_3 (v := (4 : Int32)) rfl (pc' := 5) rfl ?_
                  refine o_iloadN W405 own_d31_5 (v := (4 : Int32)) rfl (pc' := 6) rfl ?_
                  refine o_icmp_ge W405 own_d31_6 (by decide) (pq := 28) (by decide) (pc' := 9) rfl (fun hc6 => ?_) (fun hc6 => ?_)
                  · refine o_iconst W405 (v := (-1 : Int32)) own_d31_28 rfl (pc' := 29) rfl ?_
                    refine o_retI W405 rfl own_d31_29 (by decide) (by decide) ?_
                    exact ⟨_, rfl, by omega, rfl⟩
                  · exact absurd hc6 (by decide)
                · refine o_iload W405 own_d31_19 (v := (3 : Int32)) rfl (pc' := 21) rfl ?_
                  refine o_retI W405 rfl own_d31_21 (by decide) (by decide) ?_
                  exact ⟨_, rfl, by omega, rfl⟩
            · refine o_iload W404 own_d31_19 (v := (2 : Int32)) rfl (pc' := 21) rfl ?_
              refine o_retI W404 rfl own_d31_21 (by decide) (by decide) ?_
              exact ⟨_, rfl, by omega, rfl⟩
        · refine o_iload W403 own_d31_19 (v := (1 : Int32)) rfl (pc' := 21) rfl ?_
          refine o_retI W403 rfl own_d31_21 (by decide) (by decide) ?_
          exact ⟨_, rfl, by omega, rfl⟩
    · refine o_iload W402 own_d31_19 (v := (0 : Int32)) rfl (pc' := 21) rfl ?_
      refine o_retI W402 rfl own_d31_21 (by decide) (by decide) ?_
      exact ⟨_, rfl, by omega, rfl⟩
theorem own_ef26_4 (m : MethodId) (z0 : Addr) (z1 : Int32) (z2 : Int32) (z3 : Int32) : entryFrame m #[(.ref z0), (.int z1), (.int z2), (.int z3)] 4 = mkF m 0 #[.val (.ref z0), .val (.int z1), .val (.int z2), .val (.int z3)] [] := by first | (simp [entryFrame, mkF, argsToLocals, Value.category]; done) | rfl
set_option maxRecDepth 65536 in
set_option maxHeartbeats 4000000 in
theorem rm26_4 (l : Launch) (Z : State) (a0 : Array Value) (hw : ∀ d ∈ tables_1, d.before a0 Z = true) (b1 : Addr) (y1 : Int32) (h0 : Heap) (n0 : Nat) (Z0 : n0 ≤ h0.size) (cs : Int32) (fm : Value) (ST : OSt Z h0 cs fm) (hfm : fm.isRef = true) (hy : 0 ≤ y1.toInt ∧ y1.toInt < 128) (k0 k1 k2 k3 : Int32) (hk0 : 0 ≤ k0.toInt ∧ k0.toInt ≤ 65535) (hk1 : 0 ≤ k1.toInt ∧ k1.toInt ≤ 65535) (hk2 : 0 ≤ k2.toInt ∧ k2.toInt ≤ 65535) (hk3 : 0 ≤ k3.toInt ∧ k3.toInt ≤ 65535) (A1 : OA Z h0 b1 .byte [own_lo k0, own_hi k0, own_lo k1, own_hi k1, own_lo k2, own_hi k2, own_lo k3, own_hi k3]) :
    OCon l Z (⟨"java/lang/StringUTF16", "indexOfChar", "([BIII)I"⟩ : MethodName) jdk_52_method_47_code 4 (some .int) [] ({ frames := 3, cells := 0, slots := 0, locals := 43 } : Room) #[(.ref b1), (.int y1), (.int (0 : Int32)), (.int (4 : Int32))] h0 n0 (QI fun r h' => ((0 ≤ r.toInt ∧ (k0.toInt = y1.toInt ∨ k1.toInt = y1.toInt ∨ k2.toInt = y1.toInt ∨ k3.toInt = y1.toInt)) ∨ (r.toInt < 0 ∧ ¬ (k0.toInt = y1.toInt ∨ k1.toInt = y1.toInt ∨ k2.toInt = y1.toInt ∨ k3.toInt = y1.toInt))) ∧ h0 = h') := by
  refine OCon.mk (plainFor_of_name own_pn2) Z0 ?_
  intro p e s m below meth cd s₁ W0
  refine OF.cast (own_ef26_4 m b1 y1 (0 : Int32) (4 : Int32)) ?_
  refine o_iloadN W0 own_d26_0 (v := (0 : Int32)) rfl (pc' := 1) rfl ?_
  refine o_iloadN W0 own_d26_1 (v := (4 : Int32)) rfl (pc' := 2) rfl ?_
  refine o_aloadN W0 own_d26_2 (v := (.ref b1)) rfl rfl (pc' := 3) rfl ?_
  refine o_callS W0 (rm27_4 l Z a0 hw b1 h0 n0 W0.le cs fm ST hfm k0 k1 k2 k3 A1) (ow hw 115 rfl) (ow hw 116 rfl) (ow hw 73 rfl) (ow hw 117 rfl) (by decide) (argsL := [(.int (0 : Int32)), (.int (4 : Int32)), (.ref b1)]) (S := []) (lenOf own_pd17 rfl) rfl rfl rfl (wt := 0) rfl (by decide) (by decide) (by decide) (by decide) (kk' := 0) rfl (nn' := 0) rfl own_d26_3 (pc' := 6) rfl ?_
  intro r406 T406 h406 W406 q406 z406
  obtain ⟨rfl, q406⟩ := q406
  show OF _ _ _ _ _ _ _ T406 (mkF m 6 #[.val (.ref b1), .val (.int y1), .val (.int (0 : Int32)), .val (.int (4 : Int32))] [])
  obtain rfl := q406
  refine o_aloadN W406 own_d26_6 (v := (.ref b1)) rfl rfl (pc' := 7) rfl ?_
  refine o_iloadN W406 own_d26_7 (v := y1) rfl (pc' := 8) rfl ?_
  refine o_iloadN W406 own_d26_8 (v := (0 : Int32)) rfl (pc' := 9) rfl ?_
  refine o_iloadN W406 own_d26_9 (v := (4 : Int32)) rfl (pc' := 10) rfl ?_
  refine o_callSI W406 (rm31_4 l Z a0 hw b1 y1 h0 n0 W406.le cs fm ST hy k0 k1 k2 k3 hk0 hk1 hk2 hk3 A1) (ow hw 129 rfl) (ow hw 130 rfl) (ow hw 73 rfl) (ow hw 131 rfl) (by decide) (argsL := [(.ref b1), (.int y1), (.int (0 : Int32)), (.int (4 : Int32))]) (S := []) (lenOf own_pd6 rfl) rfl rfl rfl (wt := 0) rfl (by decide) (by decide) (by decide) (by decide) (kk' := 0) rfl (nn' := 0) rfl own_d26_10 (pc' := 13) rfl ?_
  intro r407 T407 h407 W407 q407 z407
  obtain ⟨q407, rfl⟩ := q407
  refine o_retI W407 rfl own_d26_13 (by decide) (by decide) ?_
  exact ⟨_, rfl, q407, rfl⟩
theorem own_ef25_4 (m : MethodId) (z0 : Addr) (z1 : Int32) (z2 : Int32) (z3 : Int32) : entryFrame m #[(.ref z0), (.int z1), (.int z2), (.int z3)] 4 = mkF m 0 #[.val (.ref z0), .val (.int z1), .val (.int z2), .val (.int z3)] [] := by first | (simp [entryFrame, mkF, argsToLocals, Value.category]; done) | rfl
set_option maxRecDepth 65536 in
set_option maxHeartbeats 4000000 in
theorem rm25_4 (l : Launch) (Z : State) (a0 : Array Value) (hw : ∀ d ∈ tables_1, d.before a0 Z = true) (b1 : Addr) (y1 : Int32) (h0 : Heap) (n0 : Nat) (Z0 : n0 ≤ h0.size) (cs : Int32) (fm : Value) (ST : OSt Z h0 cs fm) (hfm : fm.isRef = true) (hy : 0 ≤ y1.toInt ∧ y1.toInt < 128) (k0 k1 k2 k3 : Int32) (hk0 : 0 ≤ k0.toInt ∧ k0.toInt ≤ 65535) (hk1 : 0 ≤ k1.toInt ∧ k1.toInt ≤ 65535) (hk2 : 0 ≤ k2.toInt ∧ k2.toInt ≤ 65535) (hk3 : 0 ≤ k3.toInt ∧ k3.toInt ≤ 65535) (A1 : OA Z h0 b1 .byte [own_lo k0, own_hi k0, own_lo k1, own_hi k1, own_lo k2, own_hi k2, own_lo k3, own_hi k3]) :
    OCon l Z (⟨"java/lang/StringUTF16", "indexOf", "([BIII)I"⟩ : MethodName) jdk_52_method_40_code 4 (some .int) [] ({ frames := 4, cells := 0, slots := 0, locals := 58 } : Room) #[(.ref b1), (.int y1), (.int (0 : Int32)), (.int (4 : Int32))] h0 n0 (QI fun r h' => ((0 ≤ r.toInt ∧ (k0.toInt = y1.toInt ∨ k1.toInt = y1.toInt ∨ k2.toInt = y1.toInt ∨ k3.toInt = y1.toInt)) ∨ (r.toInt < 0 ∧ ¬ (k0.toInt = y1.toInt ∨ k1.toInt = y1.toInt ∨ k2.toInt = y1.toInt ∨ k3.toInt = y1.toInt))) ∧ h0 = h') := by
  refine OCon.mk (plainFor_of_name own_pn2) Z0 ?_
  intro p e s m below meth cd s₁ W0
  refine OF.cast (own_ef25_4 m b1 y1 (0 : Int32) (4 : Int32)) ?_
  have c_0___Int32_ : (0 : Int32).toInt = 0 := rfl
  have c_4___Int32_ : (4 : Int32).toInt = 4 := rfl
  have c_65536___Int32_ : (65536 : Int32).toInt = 65536 := rfl
  refine o_iloadN W0 own_d25_0 (v := (0 : Int32)) rfl (pc' := 1) rfl ?_
  refine o_iconst W0 (v := (0 : Int32)) own_d25_1 rfl (pc' := 2) rfl ?_
  refine o_callSI W0 (rm13 l Z a0 hw (0 : Int32) (0 : Int32) h0 n0 W0.le) (ow hw 109 rfl) (ow hw 65 rfl) (ow hw 66 rfl) (ow hw 67 rfl) (by decide) (argsL := [(.int (0 : Int32)), (.int (0 : Int32))]) (S := []) (lenOf own_pd3 rfl) rfl rfl rfl (wt := 0) rfl (by decide) (by decide) (by decide) (by decide) (kk' := 0) rfl (nn' := 0) rfl own_d25_2 (pc' := 5) rfl ?_
  intro r408 T408 h408 W408 q408 z408
  obtain ⟨q408, rfl⟩ := q408
  obtain rfl : r408 = (0 : Int32) := by
    rcases q408 with ⟨_, q⟩ | ⟨_, q⟩ <;> exact q
  refine o_istoreN W408 (L' := #[.val (.ref b1), .val (.int y1), .val (.int (0 : Int32)), .val (.int (4 : Int32))]) own_d25_5 rfl (pc' := 6) rfl ?_
  refine o_iloadN W408 own_d25_6 (v := (4 : Int32)) rfl (pc' := 7) rfl ?_
  refine o_aloadN W408 own_d25_7 (v := (.ref b1)) rfl rfl (pc' := 8) rfl ?_
  refine o_arraylength W408 A1 own_d25_8 (pc' := 9) rfl ?_
  intro v409 hv409
  obtain rfl : v409 = (8 : Int32) := o_eq (y := (8 : Int32)) hv409
  refine o_iconst W408 (v := (1 : Int32)) own_d25_9 rfl (pc' := 10) rfl ?_
  refine o_ishr W408 own_d25_10 (pc' := 11) rfl ?_
  show OF _ _ _ _ _ _ _ T408 (mkF m 11 #[.val (.ref b1), .val (.int y1), .val (.int (0 : Int32)), .val (.int (4 : Int32))] [(.int (4 : Int32)), (.int (4 : Int32))])
  refine o_callSI W408 (rm14 l Z a0 hw (4 : Int32) (4 : Int32) h0 n0 W408.le) (ow hw 110 rfl) (ow hw 69 rfl) (ow hw 66 rfl) (ow hw 70 rfl) (by decide) (argsL := [(.int (4 : Int32)), (.int (4 : Int32))]) (S := []) (lenOf own_pd3 rfl) rfl rfl rfl (wt := 0) rfl (by decide) (by decide) (by decide) (by decide) (kk' := 0) rfl (nn' := 0) rfl own_d25_11 (pc' := 14) rfl ?_
  intro r410 T410 h410 W410 q410 z410
  obtain ⟨q410, rfl⟩ := q410
  obtain rfl : r410 = (4 : Int32) := by
    rcases q410 with ⟨_, q⟩ | ⟨_, q⟩ <;> exact q
  refine o_istoreN W410 (L' := #[.val (.ref b1), .val (.int y1), .val (.int (0 : Int32)), .val (.int (4 : Int32))]) own_d25_14 rfl (pc' := 15) rfl ?_
  refine o_iloadN W410 own_d25_15 (v := (0 : Int32)) rfl (pc' := 16) rfl ?_
  refine o_iloadN W410 own_d25_16 (v := (4 : Int32)) rfl (pc' := 17) rfl ?_
  refine o_icmp_lt W410 own_d25_17 (by decide) (pq := 22) (by decide) (pc' := 20) rfl (fun hc17 => ?_) (fun hc17 => ?_)
  · refine o_iloadN W410 own_d25_22 (v := y1) rfl (pc' := 23) rfl ?_
    refine o_ldc W410 (ow hw 111 rfl) own_d25_23 (pc' := 25) rfl ?_
    refine o_icmp_ge W410 own_d25_25 (by decide) (pq := 36) (by decide) (pc' := 28) rfl (fun hc25 => ?_) (fun hc25 => ?_)
    · exfalso; omega
    · refine o_aloadN W410 own_d25_28 (v := (.ref b1)) rfl rfl (pc' := 29) rfl ?_
      refine o_iloadN W410 own_d25_29 (v := y1) rfl (pc' := 30) rfl ?_
      refine o_iloadN W410 own_d25_30 (v := (0 : Int32)) rfl (pc' := 31) rfl ?_
      refine o_iloadN W410 own_d25_31 (v := (4 : Int32)) rfl (pc' := 32) rfl ?_
      refine o_callSI W410 (rm26_4 l Z a0 hw b1 y1 h0 n0 W410.le cs fm ST hfm hy k0 k1 k2 k3 hk0 hk1 hk2 hk3 A1) (ow hw 112 rfl) (ow hw 113 rfl) (ow hw 73 rfl) (ow hw 114 rfl) (by decide) (argsL := [(.ref b1), (.int y1), (.int (0 : Int32)), (.int (4 : Int32))]) (S := []) (lenOf own_pd6 rfl) rfl rfl rfl (wt := 0) rfl (by decide) (by decide) (by decide) (by decide) (kk' := 0) rfl (nn' := 0) rfl own_d25_32 (pc' := 35) rfl ?_
      intro r411 T411 h411 W411 q411 z411
      obtain ⟨q411, rfl⟩ := q411
      refine o_retI W411 rfl own_d25_35 (by decide) (by decide) ?_
      exact ⟨_, rfl, q411, rfl⟩
  · exact absurd hc17 (by decide)
theorem own_ef7_4U (m : MethodId) (z0 : Addr) (z1 : Int32) (z2 : Int32) : entryFrame m #[(.ref z0), (.int z1), (.int z2)] 3 = mkF m 0 #[.val (.ref z0), .val (.int z1), .val (.int z2)] [] := by first | (simp [entryFrame, mkF, argsToLocals, Value.category]; done) | rfl
set_option maxRecDepth 65536 in
set_option maxHeartbeats 4000000 in
theorem rm7_4U (l : Launch) (Z : State) (a0 : Array Value) (hw : ∀ d ∈ tables_1, d.before a0 Z = true) (b0 : Addr) (y1 : Int32) (h0 : Heap) (n0 : Nat) (Z0 : n0 ≤ h0.size) (hy : 0 ≤ y1.toInt ∧ y1.toInt < 128) (cs : Int32) (fm : Value) (ST : OSt Z h0 cs fm) (hcs : ¬ cs.toInt = 0) (hfm : fm.isRef = true) (k0 k1 k2 k3 : Int32) (hk0 : 0 ≤ k0.toInt ∧ k0.toInt ≤ 65535) (hk1 : 0 ≤ k1.toInt ∧ k1.toInt ≤ 65535) (hk2 : 0 ≤ k2.toInt ∧ k2.toInt ≤ 65535) (hk3 : 0 ≤ k3.toInt ∧ k3.toInt ≤ 65535) (b1 : Addr) (E0 : Exa Z h0 b0 "java/lang/String") (Fv : Fld Z h0 b0 "java/lang/String" "value" "[B" (.ref b1)) (Fc : Fld Z h0 b0 "java/lang/String" "coder" "B" (.int (1 : Int32))) (A1 : OA Z h0 b1 .byte [own_lo k0, own_hi k0, own_lo k1, own_hi k1, own_lo k2, own_hi k2, own_lo k3, own_hi k3]) :
    OCon l Z (⟨"java/lang/String", "indexOf", "(II)I"⟩ : MethodName) jdk_42_method_80_code 3 (some .int) [] ({ frames := 5, cells := 0, slots := 0, locals := 73 } : Room) #[(.ref b0), (.int y1), (.int (0 : Int32))] h0 n0 (QI fun r h' => ((0 ≤ r.toInt ∧ (k0.toInt = y1.toInt ∨ k1.toInt = y1.toInt ∨ k2.toInt = y1.toInt ∨ k3.toInt = y1.toInt)) ∨ (r.toInt < 0 ∧ ¬ (k0.toInt = y1.toInt ∨ k1.toInt = y1.toInt ∨ k2.toInt = y1.toInt ∨ k3.toInt = y1.toInt))) ∧ h0 = h') := by
  refine OCon.mk (plainFor_of_name own_pn4) Z0 ?_
  intro p e s m below meth cd s₁ W0
  refine OF.cast (own_ef7_4U m b0 y1 (0 : Int32)) ?_
  have c_0___Int32_ : (0 : Int32).toInt = 0 := rfl
  refine o_aloadN W0 own_d7_0 (v := (.ref b0)) rfl rfl (pc' := 1) rfl ?_
  refine o_callV W0 E0 (rm8_U l Z a0 hw b0 h0 n0 W0.le cs fm ST hcs Fc) (ow hw 41 rfl) (ow hw 42 rfl) (notFace_of_selects (args := #[]) (mvT W0.hZ (ow hw 44 rfl))) (ow hw 44 rfl) (ow hw 43 rfl) (ow hw 8 rfl) (ow hw 45 rfl) (by decide) (argsL := []) (S := []) (lenOf own_pd4 rfl) rfl rfl rfl (wt := 0) rfl (by decide) (by decide) (by decide) (by decide) (kk' := 0) rfl (nn' := 0) rfl own_d7_1 (pc' := 4) rfl ?_
  intro vv T412 h412 W412 q412 z412
  obtain ⟨r412, rfl, q412⟩ := q412
  show OF _ _ _ _ _ _ _ T412 (mkF m 4 #[.val (.ref b0), .val (.int y1), .val (.int (0 : Int32))] [(.int r412)])
  obtain ⟨q412, rfl⟩ := q412
  obtain rfl : r412 = (0 : Int32) := q412
  refine o_if_eq W412 own_d7_4 (by decide) (pq := 23) (by decide) (pc' := 7) rfl (fun hc4 => ?_) (fun hc4 => ?_)
  · refine o_aloadN W412 own_d7_23 (v := (.ref b0)) rfl rfl (pc' := 24) rfl ?_
    refine o_getF W412 (ow hw 25 rfl) Fv own_d7_24 (pc' := 27) rfl ?_
    intro T413 W413
    refine o_iloadN W413 own_d7_27 (v := y1) rfl (pc' := 28) rfl ?_
    refine o_iloadN W413 own_d7_28 (v := (0 : Int32)) rfl (pc' := 29) rfl ?_
    refine o_aloadN W413 own_d7_29 (v := (.ref b0)) rfl rfl (pc' := 30) rfl ?_
    refine o_callV W413 E0 (rm9_4U l Z a0 hw b0 h0 n0 W413.le cs fm ST hcs k0 k1 k2 k3 b1 E0 Fv Fc A1) (ow hw 47 rfl) (ow hw 48 rfl) (notFace_of_selects (args := #[]) (mvT W413.hZ (ow hw 50 rfl))) (ow hw 50 rfl) (ow hw 49 rfl) (ow hw 8 rfl) (ow hw 51 rfl) (by decide) (argsL := []) (S := [(.int (0 : Int32)), (.int y1), (.ref b1)]) (lenOf own_pd5 rfl) rfl rfl rfl (wt := 3) rfl (by decide) (by decide) (by decide) (by decide) (kk' := 0) rfl (nn' := 0) rfl own_d7_30 (pc' := 33) rfl ?_
    intro vv T414 h414 W414 q414 z414
    obtain ⟨r414, rfl, q414⟩ := q414
    show OF _ _ _ _ _ _ _ T414 (mkF m 33 #[.val (.ref b0), .val (.int y1), .val (.int (0 : Int32))] [(.int r414), (.int (0 : Int32)), (.int y1), (.ref b1)])
    obtain ⟨q414, rfl⟩ := q414
    obtain rfl : r414 = (4 : Int32) := q414
    refine o_callSI W414 (rm25_4 l Z a0 hw b1 y1 h0 n0 W414.le cs fm ST hfm hy k0 k1 k2 k3 hk0 hk1 hk2 hk3 A1) (ow hw 106 rfl) (ow hw 107 rfl) (ow hw 73 rfl) (ow hw 108 rfl) (by decide) (argsL := [(.ref b1), (.int y1), (.int (0 : Int32)), (.int (4 : Int32))]) (S := []) (lenOf own_pd6 rfl) rfl rfl rfl (wt := 0) rfl (by decide) (by decide) (by decide) (by decide) (kk' := 0) rfl (nn' := 0) rfl own_d7_33 (pc' := 36) rfl ?_
    intro r415 T415 h415 W415 q415 z415
    obtain ⟨q415, rfl⟩ := q415
    refine o_retI W415 rfl own_d7_36 (by decide) (by decide) ?_
    exact ⟨_, rfl, q415, rfl⟩
  · exact absurd hc4 (by decide)
theorem own_ef6_4U (m : MethodId) (z0 : Addr) (z1 : Int32) : entryFrame m #[(.ref z0), (.int z1)] 2 = mkF m 0 #[.val (.ref z0), .val (.int z1)] [] := by first | (simp [entryFrame, mkF, argsToLocals, Value.category]; done) | rfl
set_option maxRecDepth 65536 in
set_option maxHeartbeats 4000000 in
theorem rm6_4U (l : Launch) (Z : State) (a0 : Array Value) (hw : ∀ d ∈ tables_1, d.before a0 Z = true) (b0 : Addr) (y1 : Int32) (h0 : Heap) (n0 : Nat) (Z0 : n0 ≤ h0.size) (hy : 0 ≤ y1.toInt ∧ y1.toInt < 128) (cs : Int32) (fm : Value) (ST : OSt Z h0 cs fm) (hcs : ¬ cs.toInt = 0) (hfm : fm.isRef = true) (k0 k1 k2 k3 : Int32) (hk0 : 0 ≤ k0.toInt ∧ k0.toInt ≤ 65535) (hk1 : 0 ≤ k1.toInt ∧ k1.toInt ≤ 65535) (hk2 : 0 ≤ k2.toInt ∧ k2.toInt ≤ 65535) (hk3 : 0 ≤ k3.toInt ∧ k3.toInt ≤ 65535) (b1 : Addr) (E0 : Exa Z h0 b0 "java/lang/String") (Fv : Fld Z h0 b0 "java/lang/String" "value" "[B" (.ref b1)) (Fc : Fld Z h0 b0 "java/lang/String" "coder" "B" (.int (1 : Int32))) (A1 : OA Z h0 b1 .byte [own_lo k0, own_hi k0, own_lo k1, own_hi k1, own_lo k2, own_hi k2, own_lo k3, own_hi k3]) :
    OCon l Z (⟨"java/lang/String", "indexOf", "(I)I"⟩ : MethodName) jdk_42_method_79_code 2 (some .int) [] ({ frames := 6, cells := 0, slots := 0, locals := 87 } : Room) #[(.ref b0), (.int y1)] h0 n0 (QI fun r h' => ((0 ≤ r.toInt ∧ (k0.toInt = y1.toInt ∨ k1.toInt = y1.toInt ∨ k2.toInt = y1.toInt ∨ k3.toInt = y1.toInt)) ∨ (r.toInt < 0 ∧ ¬ (k0.toInt = y1.toInt ∨ k1.toInt = y1.toInt ∨ k2.toInt = y1.toInt ∨ k3.toInt = y1.toInt))) ∧ h0 = h') := by
  refine OCon.mk (plainFor_of_name own_pn4) Z0 ?_
  intro p e s m below meth cd s₁ W0
  refine OF.cast (own_ef6_4U m b0 y1) ?_
  refine o_aloadN W0 own_d6_0 (v := (.ref b0)) rfl rfl (pc' := 1) rfl ?_
  refine o_iloadN W0 own_d6_1 (v := y1) rfl (pc' := 2) rfl ?_
  refine o_iconst W0 (v := (0 : Int32)) own_d6_2 rfl (pc' := 3) rfl ?_
  refine o_callV W0 E0 (rm7_4U l Z a0 hw b0 y1 h0 n0 W0.le hy cs fm ST hcs hfm k0 k1 k2 k3 hk0 hk1 hk2 hk3 b1 E0 Fv Fc A1) (ow hw 36 rfl) (ow hw 37 rfl) (notFace_of_selects (args := #[]) (mvT W0.hZ (ow hw 39 rfl))) (ow hw 39 rfl) (ow hw 38 rfl) (ow hw 8 rfl) (ow hw 40 rfl) (by decide) (argsL := [(.int y1), (.int (0 : Int32))]) (S := []) (lenOf own_pd3 rfl) rfl rfl rfl (wt := 0) rfl (by decide) (by decide) (by decide) (by decide) (kk' := 0) rfl (nn' := 0) rfl own_d6_3 (pc' := 6) rfl ?_
  intro vv T416 h416 W416 q416 z416
  obtain ⟨r416, rfl, q416⟩ := q416
  show OF _ _ _ _ _ _ _ T416 (mkF m 6 #[.val (.ref b0), .val (.int y1)] [(.int r416)])
  obtain ⟨q416, rfl⟩ := q416
  refine o_retI W416 rfl own_d6_6 (by decide) (by decide) ?_
  exact ⟨_, rfl, q416, rfl⟩
theorem own_ef5_4U (m : MethodId) (z0 : Addr) : entryFrame m #[(.ref z0)] 1 = mkF m 0 #[.val (.ref z0)] [] := by first | (simp [entryFrame, mkF, argsToLocals, Value.category]; done) | rfl
set_option maxRecDepth 65536 in
set_option maxHeartbeats 4000000 in
theorem rm5_4U (l : Launch) (Z : State) (a0 : Array Value) (hw : ∀ d ∈ tables_1, d.before a0 Z = true) (b0 : Addr) (h0 : Heap) (n0 : Nat) (Z0 : n0 ≤ h0.size) (cs : Int32) (fm : Value) (ST : OSt Z h0 cs fm) (hcs : ¬ cs.toInt = 0) (hfm : fm.isRef = true) (k0 k1 k2 k3 : Int32) (hk0 : 0 ≤ k0.toInt ∧ k0.toInt ≤ 65535) (hk1 : 0 ≤ k1.toInt ∧ k1.toInt ≤ 65535) (hk2 : 0 ≤ k2.toInt ∧ k2.toInt ≤ 65535) (hk3 : 0 ≤ k3.toInt ∧ k3.toInt ≤ 65535) (b1 : Addr) (E0 : Exa Z h0 b0 "java/lang/String") (Fv : Fld Z h0 b0 "java/lang/String" "value" "[B" (.ref b1)) (Fc : Fld Z h0 b0 "java/lang/String" "coder" "B" (.int (1 : Int32))) (A1 : OA Z h0 b1 .byte [own_lo k0, own_hi k0, own_lo k1, own_hi k1, own_lo k2, own_hi k2, own_lo k3, own_hi k3]) :
    OCon l Z (⟨"com/example/austere_access/austereaccess/policy/Glob", "isLiteral", "(Ljava/lang/String;)Z"⟩ : MethodName) prog_39_method_2_code 1 (some .boolean) [] ({ frames := 7, cells := 0, slots := 0, locals := 100 } : Room) #[(.ref b0)] h0 n0 (QI fun r h' => ((r = 1 ∧ ¬ (k0.toInt = 42 ∨ k0.toInt = 63 ∨ k1.toInt = 42 ∨ k1.toInt = 63 ∨ k2.toInt = 42 ∨ k2.toInt = 63 ∨ k3.toInt = 42 ∨ k3.toInt = 63)) ∨ (r = 0 ∧ (k0.toInt = 42 ∨ k0.toInt = 63 ∨ k1.toInt = 42 ∨ k1.toInt = 63 ∨ k2.toInt = 42 ∨ k2.toInt = 63 ∨ k3.toInt = 42 ∨ k3.toInt = 63))) ∧ h0 = h') := by
  refine OCon.mk (plainFor_of_name own_pn5) Z0 ?_
  intro p e s m below meth cd s₁ W0
  refine OF.cast (own_ef5_4U m b0) ?_
  have c42 : (42 : Int32).toInt = 42 := rfl
  have c63 : (63 : Int32).toInt = 63 := rfl
  refine o_aloadN W0 own_d5_0 (v := (.ref b0)) rfl rfl (pc' := 1) rfl ?_
  refine o_bipush W0 (v := (42 : Int32)) own_d5_1 rfl (pc' := 3) rfl ?_
  refine o_callV W0 E0 (rm6_4U l Z a0 hw b0 (42 : Int32) h0 n0 W0.le (by decide) cs fm ST hcs hfm k0 k1 k2 k3 hk0 hk1 hk2 hk3 b1 E0 Fv Fc A1) (ow hw 31 rfl) (ow hw 32 rfl) (notFace_of_selects (args := #[]) (mvT W0.hZ (ow hw 34 rfl))) (ow hw 34 rfl) (ow hw 33 rfl) (ow hw 8 rfl) (ow hw 35 rfl) (by decide) (argsL := [(.int (42 : Int32))]) (S := []) (lenOf own_pd7 rfl) rfl rfl rfl (wt := 0) rfl (by decide) (by decide) (by decide) (by decide) (kk' := 0) rfl (nn' := 0) rfl own_d5_3 (pc' := 6) rfl ?_
  intro vv T417 h417 W417 q417 z417
  obtain ⟨r417, rfl, q417⟩ := q417
  show OF _ _ _ _ _ _ _ T417 (mkF m 6 #[.val (.ref b0)] [(.int r417)])
  obtain ⟨q417, rfl⟩ := q417
  refine o_if_ge W417 own_d5_6 (by decide) (pq := 22) (by decide) (pc' := 9) rfl (fun hc6 => ?_) (fun hc6 => ?_)
  · refine o_iconst W417 (v := (0 : Int32)) own_d5_22 rfl (pc' := 23) rfl ?_
    refine o_retN W417 (t := .boolean) rfl (by simp) own_d5_23 (by decide) (by decide) ?_
    exact ⟨(0 : Int32), rfl, Or.inr ⟨rfl, by omega⟩, rfl⟩
  · refine o_aloadN W417 own_d5_9 (v := (.ref b0)) rfl rfl (pc' := 10) rfl ?_
    refine o_bipush W417 (v := (63 : Int32)) own_d5_10 rfl (pc' := 12) rfl ?_
    refine o_callV W417 E0 (rm6_4U l Z a0 hw b0 (63 : Int32) h0 n0 W417.le (by decide) cs fm ST hcs hfm k0 k1 k2 k3 hk0 hk1 hk2 hk3 b1 E0 Fv Fc A1) (ow hw 31 rfl) (ow hw 32 rfl) (notFace_of_selects (args := #[]) (mvT W417.hZ (ow hw 34 rfl))) (ow hw 34 rfl) (ow hw 33 rfl) (ow hw 8 rfl) (ow hw 35 rfl) (by decide) (argsL := [(.int (63 : Int32))]) (S := []) (lenOf own_pd7 rfl) rfl rfl rfl (wt := 0) rfl (by decide) (by decide) (by decide) (by decide) (kk' := 0) rfl (nn' := 0) rfl own_d5_12 (pc' := 15) rfl ?_
    intro vv T418 h418 W418 q418 z418
    obtain ⟨r418, rfl, q418⟩ := q418
    show OF _ _ _ _ _ _ _ T418 (mkF m 15 #[.val (.ref b0)] [(.int r418)])
    obtain ⟨q418, rfl⟩ := q418
    refine o_if_ge W418 own_d5_15 (by decide) (pq := 22) (by decide) (pc' := 18) rfl (fun hc15 => ?_) (fun hc15 => ?_)
    · refine o_iconst W418 (v := (0 : Int32)) own_d5_22 rfl (pc' := 23) rfl ?_
      refine o_retN W418 (t := .boolean) rfl (by simp) own_d5_23 (by decide) (by decide) ?_
      exact ⟨(0 : Int32), rfl, Or.inr ⟨rfl, by omega⟩, rfl⟩
    · refine o_iconst W418 (v := (1 : Int32)) own_d5_18 rfl (pc' := 19) rfl ?_
      refine o_goto W418 own_d5_19 (by decide) (pq := 23) (by decide) ?_
      refine o_retN W418 (t := .boolean) rfl (by simp) own_d5_23 (by decide) (by decide) ?_
      exact ⟨(1 : Int32), rfl, Or.inl ⟨rfl, by omega⟩, rfl⟩
theorem own_ef0_4 (m : MethodId) (z0 : Int32) (z1 : Int32) (z2 : Int32) (z3 : Int32) (z4 : Int32) : entryFrame m #[(.int z0), (.int z1), (.int z2), (.int z3), (.int z4)] maxLocals = mkF m 0 #[.val (.int z0), .val (.int z1), .val (.int z2), .val (.int z3), .val (.int z4), .unset, .unset, .unset, .unset, .unset, .unset, .unset, .unset, .unset, .unset, .unset, .unset, .unset] [] := by first | (simp [entryFrame, mkF, argsToLocals, Value.category, maxLocals]; done) | rfl
set_option maxRecDepth 65536 in
set_option maxHeartbeats 4000000 in
theorem own_law_4 (l : Launch) (Z : State) (a0 : Array Value) (hw : ∀ d ∈ tables_1, d.before a0 Z = true) (x0 : Int32) (x1 : Int32) (x2 : Int32) (x3 : Int32) (x4 : Int32) (h0 : Heap) (n0 : Nat) (Z0 : n0 ≤ h0.size) (cs : Int32) (fm : Value) (ST : OSt Z h0 cs fm) (hcs : ¬ cs.toInt = 0) (hfm : fm.isRef = true) (hx0 : (x0 &&& 7) - (x0 &&& 7) / 5 * 5 = (4 : Int32)) :
    OCon l Z x code maxLocals ret tables_1 room_1 #[(.int x0), (.int x1), (.int x2), (.int x3), (.int x4)] h0 n0 (fun v _ => v = some (.int 1)) := by
  refine OCon.mk (plainFor_of_name own_pn0) Z0 ?_
  intro p e s m below meth cd s₁ W0
  refine OF.cast (own_ef0_4 m x0 x1 x2 x3 x4) ?_
  refine o_iloadN W0 at_0 (v := x0) rfl (pc' := 1) rfl ?_
  refine o_bipush W0 (v := (7 : Int32)) at_1 rfl (pc' := 3) rfl ?_
  refine o_iand W0 at_3 (pc' := 4) rfl ?_
  refine o_iconst W0 (v := (5 : Int32)) at_4 rfl (pc' := 5) rfl ?_
  refine o_irem W0 at_5 (by decide) (pc' := 6) rfl ?_
  rw [hx0]
  refine o_istore W0 (L' := #[.val (.int x0), .val (.int x1), .val (.int x2), .val (.int x3), .val (.int x4), .val (.int (4 : Int32)), .unset, .unset, .unset, .unset, .unset, .unset, .unset, .unset, .unset, .unset, .unset, .unset]) at_6 rfl (pc' := 8) rfl ?_
  refine o_iloadN W0 at_8 (v := x1) rfl (pc' := 9) rfl ?_
  refine o_callSI W0 (rm1 l Z a0 hw x1 h0 n0 W0.le) (ow hw 0 rfl) (ow hw 1 rfl) (ow hw 2 rfl) (ow hw 3 rfl) (by decide) (argsL := [(.int x1)]) (S := []) (lenOf own_pd18 rfl) rfl rfl rfl (wt := 0) rfl (by decide) (by decide) (by decide) (by decide) (kk' := 0) rfl (nn' := 0) rfl at_9 (pc' := 12) rfl ?_
  intro r419 T419 h419 W419 q419 z419
  obtain ⟨q419, rfl⟩ := q419
  refine o_istore W419 (L' := #[.val (.int x0), .val (.int x1), .val (.int x2), .val (.int x3), .val (.int x4), .val (.int (4 : Int32)), .val (.int r419), .unset, .unset, .unset, .unset, .unset, .unset, .unset, .unset, .unset, .unset, .unset]) at_12 rfl (pc' := 14) rfl ?_
  refine o_iloadN W419 at_14 (v := x2) rfl (pc' := 15) rfl ?_
  refine o_callSI W419 (rm1 l Z a0 hw x2 h0 n0 W419.le) (ow hw 0 rfl) (ow hw 1 rfl) (ow hw 2 rfl) (ow hw 3 rfl) (by decide) (argsL := [(.int x2)]) (S := []) (lenOf own_pd18 rfl) rfl rfl rfl (wt := 0) rfl (by decide) (by decide) (by decide) (by decide) (kk' := 0) rfl (nn' := 0) rfl at_15 (pc' := 18) rfl ?_
  intro r420 T420 h420 W420 q420 z420
  obtain ⟨q420, rfl⟩ := q420
  refine o_istore W420 (L' := #[.val (.int x0), .val (.int x1), .val (.int x2), .val (.int x3), .val (.int x4), .val (.int (4 : Int32)), .val (.int r419), .val (.int r420), .unset, .unset, .unset, .unset, .unset, .unset, .unset, .unset, .unset, .unset]) at_18 rfl (pc' := 20) rfl ?_
  refine o_iloadN W420 at_20 (v := x3) rfl (pc' := 21) rfl ?_
  refine o_callSI W420 (rm1 l Z a0 hw x3 h0 n0 W420.le) (ow hw 0 rfl) (ow hw 1 rfl) (ow hw 2 rfl) (ow hw 3 rfl) (by decide) (argsL := [(.int x3)]) (S := []) (lenOf own_pd18 rfl) rfl rfl rfl (wt := 0) rfl (by decide) (by decide) (by decide) (by decide) (kk' := 0) rfl (nn' := 0) rfl at_21 (pc' := 24) rfl ?_
  intro r421 T421 h421 W421 q421 z421
  obtain ⟨q421, rfl⟩ := q421
  refine o_istore W421 (L' := #[.val (.int x0), .val (.int x1), .val (.int x2), .val (.int x3), .val (.int x4), .val (.int (4 : Int32)), .val (.int r419), .val (.int r420), .val (.int r421), .unset, .unset, .unset, .unset, .unset, .unset, .unset, .unset, .unset]) at_24 rfl (pc' := 26) rfl ?_
  refine o_iload W421 at_26 (v := x4) rfl (pc' := 28) rfl ?_
  refine o_callSI W421 (rm1 l Z a0 hw x4 h0 n0 W421.le) (ow hw 0 rfl) (ow hw 1 rfl) (ow hw 2 rfl) (ow hw 3 rfl) (by decide) (argsL := [(.int x4)]) (S := []) (lenOf own_pd18 rfl) rfl rfl rfl (wt := 0) rfl (by decide) (by decide) (by decide) (by decide) (kk' := 0) rfl (nn' := 0) rfl at_28 (pc' := 31) rfl ?_
  intro r422 T422 h422 W422 q422 z422
  obtain ⟨q422, rfl⟩ := q422
  refine o_istore W422 (L' := #[.val (.int x0), .val (.int x1), .val (.int x2), .val (.int x3), .val (.int x4), .val (.int (4 : Int32)), .val (.int r419), .val (.int r420), .val (.int r421), .val (.int r422), .unset, .unset, .unset, .unset, .unset, .unset, .unset, .unset]) at_31 rfl (pc' := 33) rfl ?_
  refine o_iconst W422 (v := (0 : Int32)) at_33 rfl (pc' := 34) rfl ?_
  refine o_newarray W422 (ty := .char) (len := 0) (cap := 0) (ow hw 5 rfl) rfl rfl rfl at_34 (pc' := 36) rfl rfl (by decide) (by decide) (by decide) (by decide) (kk' := 1) rfl (nn' := 0) rfl ?_
  intro T424 h424 a423 W424 E424 g_a423 A_a423
  have b_a423 : n0 ≤ a423 := by rw [g_a423]; exact W422.le
  have A_a423 : OA Z h424 a423 .char [] := A_a423
  have ST_424 := ST.ext E424
  refine o_astore W424 (L' := #[.val (.int x0), .val (.int x1), .val (.int x2), .val (.int x3), .val (.int x4), .val (.int (4 : Int32)), .val (.int r419), .val (.int r420), .val (.int r421), .val (.int r422), .val (.ref a423), .unset, .unset, .unset, .unset, .unset, .unset, .unset]) at_36 rfl rfl (pc' := 38) rfl ?_
  refine o_iconst W424 (v := (1 : Int32)) at_38 rfl (pc' := 39) rfl ?_
  refine o_newarray W424 (ty := .char) (len := 1) (cap := 1) (ow hw 5 rfl) rfl rfl rfl at_39 (pc' := 41) rfl rfl (by decide) (by decide) (by decide) (by decide) (kk' := 2) rfl (nn' := 1) rfl ?_
  intro T426 h426 a425 W426 E426 g_a425 A_a425
  have b_a425 : n0 ≤ a425 := by rw [g_a425]; exact W424.le
  have ne_a423_a425 : a423 ≠ a425 := Nat.ne_of_lt (Nat.lt_of_lt_of_le A_a423.lt (Nat.le_of_eq g_a425.symm))
  have A_a423_426 := A_a423.ext E426
  have A_a425 : OA Z h426 a425 .char [0] := A_a425
  have ST_426 := ST_424.ext E426
  refine o_dup W426 at_41 rfl (pc' := 42) rfl ?_
  refine o_iconst W426 (v := (0 : Int32)) at_42 rfl (pc' := 43) rfl ?_
  refine o_iload W426 at_43 (v := r419) rfl (pc' := 45) rfl ?_
  refine o_castore W426 A_a425 b_a425 at_45 (pc' := 46) rfl (i := 0) rfl (Nat.le_of_ble_eq_true rfl) ?_
  intro T427 h427 W427 K427 A_a425_427
  have A_a423_427 := A_a423_426.keep1 K427 ne_a423_a425
  have ST_427 := ST_426.keepA A_a425 K427
  have A_a425_427 : OA Z h427 a425 .char [(r419.toUInt32.toUInt16.toUInt32.toInt32)] := A_a425_427
  refine o_astore W427 (L' := #[.val (.int x0), .val (.int x1), .val (.int x2), .val (.int x3), .val (.int x4), .val (.int (4 : Int32)), .val (.int r419), .val (.int r420), .val (.int r421), .val (.int r422), .val (.ref a423), .val (.ref a425), .unset, .unset, .unset, .unset, .unset, .unset]) at_46 rfl rfl (pc' := 48) rfl ?_
  refine o_iconst W427 (v := (2 : Int32)) at_48 rfl (pc' := 49) rfl ?_
  refine o_newarray W427 (ty := .char) (len := 2) (cap := 2) (ow hw 5 rfl) rfl rfl rfl at_49 (pc' := 51) rfl rfl (by decide) (by decide) (by decide) (by decide) (kk' := 3) rfl (nn' := 3) rfl ?_
  intro T429 h429 a428 W429 E429 g_a428 A_a428
  have b_a428 : n0 ≤ a428 := by rw [g_a428]; exact W427.le
  have ne_a423_a428 : a423 ≠ a428 := Nat.ne_of_lt (Nat.lt_of_lt_of_le A_a423_427.lt (Nat.le_of_eq g_a428.symm))
  have A_a423_429 := A_a423_427.ext E429
  have ne_a425_a428 : a425 ≠ a428 := Nat.ne_of_lt (Nat.lt_of_lt_of_le A_a425_427.lt (Nat.le_of_eq g_a428.symm))
  have A_a425_429 := A_a425_427.ext E429
  have A_a428 : OA Z h429 a428 .char [0, 0] := A_a428
  have ST_429 := ST_427.ext E429
  refine o_dup W429 at_51 rfl (pc' := 52) rfl ?_
  refine o_iconst W429 (v := (0 : Int32)) at_52 rfl (pc' := 53) rfl ?_
  refine o_iload W429 at_53 (v := r419) rfl (pc' := 55) rfl ?_
  refine o_castore W429 A_a428 b_a428 at_55 (pc' := 56) rfl (i := 0) rfl (Nat.le_of_ble_eq_true rfl) ?_
  intro T430 h430 W430 K430 A_a428_430
  have A_a423_430 := A_a423_429.keep1 K430 ne_a423_a428
  have A_a425_430 := A_a425_429.keep1 K430 ne_a425_a428
  have ST_430 := ST_429.keepA A_a428 K430
  have A_a428_430 : OA Z h430 a428 .char [(r419.toUInt32.toUInt16.toUInt32.toInt32), 0] := A_a428_430
  refine o_dup W430 at_56 rfl (pc' := 57) rfl ?_
  refine o_iconst W430 (v := (1 : Int32)) at_57 rfl (pc' := 58) rfl ?_
  refine o_iload W430 at_58 (v := r420) rfl (pc' := 60) rfl ?_
  refine o_castore W430 A_a428_430 b_a428 at_60 (pc' := 61) rfl (i := 1) rfl (Nat.le_of_ble_eq_true rfl) ?_
  intro T431 h431 W431 K431 A_a428_431
  have A_a423_431 := A_a423_430.keep1 K431 ne_a423_a428
  have A_a425_431 := A_a425_430.keep1 K431 ne_a425_a428
  have ST_431 := ST_430.keepA A_a428_430 K431
  have A_a428_431 : OA Z h431 a428 .char [(r419.toUInt32.toUInt16.toUInt32.toInt32), (r420.toUInt32.toUInt16.toUInt32.toInt32)] := A_a428_431
  refine o_astore W431 (L' := #[.val (.int x0), .val (.int x1), .val (.int x2), .val (.int x3), .val (.int x4), .val (.int (4 : Int32)), .val (.int r419), .val (.int r420), .val (.int r421), .val (.int r422), .val (.ref a423), .val (.ref a425), .val (.ref a428), .unset, .unset, .unset, .unset, .unset]) at_61 rfl rfl (pc' := 63) rfl ?_
  refine o_iconst W431 (v := (3 : Int32)) at_63 rfl (pc' := 64) rfl ?_
  refine o_newarray W431 (ty := .char) (len := 3) (cap := 3) (ow hw 5 rfl) rfl rfl rfl at_64 (pc' := 66) rfl rfl (by decide) (by decide) (by decide) (by decide) (kk' := 4) rfl (nn' := 6) rfl ?_
  intro T433 h433 a432 W433 E433 g_a432 A_a432
  have b_a432 : n0 ≤ a432 := by rw [g_a432]; exact W431.le
  have ne_a423_a432 : a423 ≠ a432 := Nat.ne_of_lt (Nat.lt_of_lt_of_le A_a423_431.lt (Nat.le_of_eq g_a432.symm))
  have A_a423_433 := A_a423_431.ext E433
  have ne_a425_a432 : a425 ≠ a432 := Nat.ne_of_lt (Nat.lt_of_lt_of_le A_a425_431.lt (Nat.le_of_eq g_a432.symm))
  have A_a425_433 := A_a425_431.ext E433
  have ne_a428_a432 : a428 ≠ a432 := Nat.ne_of_lt (Nat.lt_of_lt_of_le A_a428_431.lt (Nat.le_of_eq g_a432.symm))
  have A_a428_433 := A_a428_431.ext E433
  have A_a432 : OA Z h433 a432 .char [0, 0, 0] := A_a432
  have ST_433 := ST_431.ext E433
  refine o_dup W433 at_66 rfl (pc' := 67) rfl ?_
  refine o_iconst W433 (v := (0 : Int32)) at_67 rfl (pc' := 68) rfl ?_
  refine o_iload W433 at_68 (v := r419) rfl (pc' := 70) rfl ?_
  refine o_castore W433 A_a432 b_a432 at_70 (pc' := 71) rfl (i := 0) rfl (Nat.le_of_ble_eq_true rfl) ?_
  intro T434 h434 W434 K434 A_a432_434
  have A_a423_434 := A_a423_433.keep1 K434 ne_a423_a432
  have A_a425_434 := A_a425_433.keep1 K434 ne_a425_a432
  have A_a428_434 := A_a428_433.keep1 K434 ne_a428_a432
  have ST_434 := ST_433.keepA A_a432 K434
  have A_a432_434 : OA Z h434 a432 .char [(r419.toUInt32.toUInt16.toUInt32.toInt32), 0, 0] := A_a432_434
  refine o_dup W434 at_71 rfl (pc' := 72) rfl ?_
  refine o_iconst W434 (v := (1 : Int32)) at_72 rfl (pc' := 73) rfl ?_
  refine o_iload W434 at_73 (v := r420) rfl (pc' := 75) rfl ?_
  refine o_castore W434 A_a432_434 b_a432 at_75 (pc' := 76) rfl (i := 1) rfl (Nat.le_of_ble_eq_true rfl) ?_
  intro T435 h435 W435 K435 A_a432_435
  have A_a423_435 := A_a423_434.keep1 K435 ne_a423_a432
  have A_a425_435 := A_a425_434.keep1 K435 ne_a425_a432
  have A_a428_435 := A_a428_434.keep1 K435 ne_a428_a432
  have ST_435 := ST_434.keepA A_a432_434 K435
  have A_a432_435 : OA Z h435 a432 .char [(r419.toUInt32.toUInt16.toUInt32.toInt32), (r420.toUInt32.toUInt16.toUInt32.toInt32), 0] := A_a432_435
  refine o_dup W435 at_76 rfl (pc' := 77) rfl ?_
  refine o_iconst W435 (v := (2 : Int32)) at_77 rfl (pc' := 78) rfl ?_
  refine o_iload W435 at_78 (v := r421) rfl (pc' := 80) rfl ?_
  refine o_castore W435 A_a432_435 b_a432 at_80 (pc' := 81) rfl (i := 2) rfl (Nat.le_of_ble_eq_true rfl) ?_
  intro T436 h436 W436 K436 A_a432_436
  have A_a423_436 := A_a423_435.keep1 K436 ne_a423_a432
  have A_a425_436 := A_a425_435.keep1 K436 ne_a425_a432
  have A_a428_436 := A_a428_435.keep1 K436 ne_a428_a432
  have ST_436 := ST_435.keepA A_a432_435 K436
  have A_a432_436 : OA Z h436 a432 .char [(r419.toUInt32.toUInt16.toUInt32.toInt32), (r420.toUInt32.toUInt16.toUInt32.toInt32), (r421.toUInt32.toUInt16.toUInt32.toInt32)] := A_a432_436
  refine o_astore W436 (L' := #[.val (.int x0), .val (.int x1), .val (.int x2), .val (.int x3), .val (.int x4), .val (.int (4 : Int32)), .val (.int r419), .val (.int r420), .val (.int r421), .val (.int r422), .val (.ref a423), .val (.ref a425), .val (.ref a428), .val (.ref a432), .unset, .unset, .unset, .unset]) at_81 rfl rfl (pc' := 83) rfl ?_
  refine o_iconst W436 (v := (4 : Int32)) at_83 rfl (pc' := 84) rfl ?_
  refine o_newarray W436 (ty := .char) (len := 4) (cap := 4) (ow hw 5 rfl) rfl rfl rfl at_84 (pc' := 86) rfl rfl (by decide) (by decide) (by decide) (by decide) (kk' := 5) rfl (nn' := 10) rfl ?_
  intro T438 h438 a437 W438 E438 g_a437 A_a437
  have b_a437 : n0 ≤ a437 := by rw [g_a437]; exact W436.le
  have ne_a423_a437 : a423 ≠ a437 := Nat.ne_of_lt (Nat.lt_of_lt_of_le A_a423_436.lt (Nat.le_of_eq g_a437.symm))
  have A_a423_438 := A_a423_436.ext E438
  have ne_a425_a437 : a425 ≠ a437 := Nat.ne_of_lt (Nat.lt_of_lt_of_le A_a425_436.lt (Nat.le_of_eq g_a437.symm))
  have A_a425_438 := A_a425_436.ext E438
  have ne_a428_a437 : a428 ≠ a437 := Nat.ne_of_lt (Nat.lt_of_lt_of_le A_a428_436.lt (Nat.le_of_eq g_a437.symm))
  have A_a428_438 := A_a428_436.ext E438
  have ne_a432_a437 : a432 ≠ a437 := Nat.ne_of_lt (Nat.lt_of_lt_of_le A_a432_436.lt (Nat.le_of_eq g_a437.symm))
  have A_a432_438 := A_a432_436.ext E438
  have A_a437 : OA Z h438 a437 .char [0, 0, 0, 0] := A_a437
  have ST_438 := ST_436.ext E438
  refine o_dup W438 at_86 rfl (pc' := 87) rfl ?_
  refine o_iconst W438 (v := (0 : Int32)) at_87 rfl (pc' := 88) rfl ?_
  refine o_iload W438 at_88 (v := r419) rfl (pc' := 90) rfl ?_
  refine o_castore W438 A_a437 b_a437 at_90 (pc' := 91) rfl (i := 0) rfl (Nat.le_of_ble_eq_true rfl) ?_
  intro T439 h439 W439 K439 A_a437_439
  have A_a423_439 := A_a423_438.keep1 K439 ne_a423_a437
  have A_a425_439 := A_a425_438.keep1 K439 ne_a425_a437
  have A_a428_439 := A_a428_438.keep1 K439 ne_a428_a437
  have A_a432_439 := A_a432_438.keep1 K439 ne_a432_a437
  have ST_439 := ST_438.keepA A_a437 K439
  have A_a437_439 : OA Z h439 a437 .char [(r419.toUInt32.toUInt16.toUInt32.toInt32), 0, 0, 0] := A_a437_439
  refine o_dup W439 at_91 rfl (pc' := 92) rfl ?_
  refine o_iconst W439 (v := (1 : Int32)) at_92 rfl (pc' := 93) rfl ?_
  refine o_iload W439 at_93 (v := r420) rfl (pc' := 95) rfl ?_
  refine o_castore W439 A_a437_439 b_a437 at_95 (pc' := 96) rfl (i := 1) rfl (Nat.le_of_ble_eq_true rfl) ?_
  intro T440 h440 W440 K440 A_a437_440
  have A_a423_440 := A_a423_439.keep1 K440 ne_a423_a437
  have A_a425_440 := A_a425_439.keep1 K440 ne_a425_a437
  have A_a428_440 := A_a428_439.keep1 K440 ne_a428_a437
  have A_a432_440 := A_a432_439.keep1 K440 ne_a432_a437
  have ST_440 := ST_439.keepA A_a437_439 K440
  have A_a437_440 : OA Z h440 a437 .char [(r419.toUInt32.toUInt16.toUInt32.toInt32), (r420.toUInt32.toUInt16.toUInt32.toInt32), 0, 0] := A_a437_440
  refine o_dup W440 at_96 rfl (pc' := 97) rfl ?_
  refine o_iconst W440 (v := (2 : Int32)) at_97 rfl (pc' := 98) rfl ?_
  refine o_iload W440 at_98 (v := r421) rfl (pc' := 100) rfl ?_
  refine o_castore W440 A_a437_440 b_a437 at_100 (pc' := 101) rfl (i := 2) rfl (Nat.le_of_ble_eq_true rfl) ?_
  intro T441 h441 W441 K441 A_a437_441
  have A_a423_441 := A_a423_440.keep1 K441 ne_a423_a437
  have A_a425_441 := A_a425_440.keep1 K441 ne_a425_a437
  have A_a428_441 := A_a428_440.keep1 K441 ne_a428_a437
  have A_a432_441 := A_a432_440.keep1 K441 ne_a432_a437
  have ST_441 := ST_440.keepA A_a437_440 K441
  have A_a437_441 : OA Z h441 a437 .char [(r419.toUInt32.toUInt16.toUInt32.toInt32), (r420.toUInt32.toUInt16.toUInt32.toInt32), (r421.toUInt32.toUInt16.toUInt32.toInt32), 0] := A_a437_441
  refine o_dup W441 at_101 rfl (pc' := 102) rfl ?_
  refine o_iconst W441 (v := (3 : Int32)) at_102 rfl (pc' := 103) rfl ?_
  refine o_iload W441 at_103 (v := r422) rfl (pc' := 105) rfl ?_
  refine o_castore W441 A_a437_441 b_a437 at_105 (pc' := 106) rfl (i := 3) rfl (Nat.le_of_ble_eq_true rfl) ?_
  intro T442 h442 W442 K442 A_a437_442
  have A_a423_442 := A_a423_441.keep1 K442 ne_a423_a437
  have A_a425_442 := A_a425_441.keep1 K442 ne_a425_a437
  have A_a428_442 := A_a428_441.keep1 K442 ne_a428_a437
  have A_a432_442 := A_a432_441.keep1 K442 ne_a432_a437
  have ST_442 := ST_441.keepA A_a437_441 K442
  have A_a437_442 : OA Z h442 a437 .char [(r419.toUInt32.toUInt16.toUInt32.toInt32), (r420.toUInt32.toUInt16.toUInt32.toInt32), (r421.toUInt32.toUInt16.toUInt32.toInt32), (r422.toUInt32.toUInt16.toUInt32.toInt32)] := A_a437_442
  refine o_astore W442 (L' := #[.val (.int x0), .val (.int x1), .val (.int x2), .val (.int x3), .val (.int x4), .val (.int (4 : Int32)), .val (.int r419), .val (.int r420), .val (.int r421), .val (.int r422), .val (.ref a423), .val (.ref a425), .val (.ref a428), .val (.ref a432), .val (.ref a437), .unset, .unset, .unset]) at_106 rfl rfl (pc' := 108) rfl ?_
  have ACH : OA Z h442 a437 .char [r419, r420, r421, r422] := by
    have q := A_a437_442
    rw [own_i2c q419.1 q419.2] at q
    rw [own_i2c q420.1 q420.2] at q
    rw [own_i2c q421.1 q421.2] at q
    rw [own_i2c q422.1 q422.2] at q
    exact q
  refine o_iload W442 at_108 (v := (4 : Int32)) rfl (pc' := 110) rfl ?_
  refine o_if_ne W442 at_110 (by decide) (pq := 120) (by decide) (pc' := 113) rfl (fun hc110 => ?_) (fun hc110 => ?_)
  · refine o_iload W442 at_120 (v := (4 : Int32)) rfl (pc' := 122) rfl ?_
    refine o_iconst W442 (v := (1 : Int32)) at_122 rfl (pc' := 123) rfl ?_
    refine o_icmp_ne W442 at_123 (by decide) (pq := 133) (by decide) (pc' := 126) rfl (fun hc123 => ?_) (fun hc123 => ?_)
    · refine o_iload W442 at_133 (v := (4 : Int32)) rfl (pc' := 135) rfl ?_
      refine o_iconst W442 (v := (2 : Int32)) at_135 rfl (pc' := 136) rfl ?_
      refine o_icmp_ne W442 at_136 (by decide) (pq := 146) (by decide) (pc' := 139) rfl (fun hc136 => ?_) (fun hc136 => ?_)
      · refine o_iload W442 at_146 (v := (4 : Int32)) rfl (pc' := 148) rfl ?_
        refine o_iconst W442 (v := (3 : Int32)) at_148 rfl (pc' := 149) rfl ?_
        refine o_icmp_ne W442 at_149 (by decide) (pq := 159) (by decide) (pc' := 152) rfl (fun hc149 => ?_) (fun hc149 => ?_)
        · refine o_aload W442 at_159 (v := (.ref a437)) rfl rfl (pc' := 161) rfl ?_
          refine o_astore W442 (L' := #[.val (.int x0), .val (.int x1), .val (.int x2), .val (.int x3), .val (.int x4), .val (.int (4 : Int32)), .val (.int r419), .val (.int r420), .val (.int r421), .val (.int r422), .val (.ref a423), .val (.ref a425), .val (.ref a428), .val (.ref a432), .val (.ref a437), .val (.ref a437), .unset, .unset]) at_161 rfl rfl (pc' := 163) rfl ?_
          refine o_new W442 (ow hw 6 rfl) (ow hw 7 rfl) (ow hw 8 rfl) at_163 (pc' := 166) rfl (by decide) (by decide) (kk' := 6) rfl (nn' := 14) rfl ?_
          intro T444 h444 a443 W444 E444 g_a443 X_a443 D_a443
          have b_a443 : n0 ≤ a443 := by rw [g_a443]; exact W442.le
          have ne_a437_a443 : a437 ≠ a443 := Nat.ne_of_lt (Nat.lt_of_lt_of_le ACH.lt (Nat.le_of_eq g_a443.symm))
          have A_a437_444 := ACH.ext E444
          have ST_444 := ST_442.ext E444
          have F_value_a443 : Fld Z h444 a443 "java/lang/String" "value" "[B" .null := D_a443 (Or.inr (ow hw 21 rfl)) (ty := (.array .byte)) (by decide)
          have F_coder_a443 : Fld Z h444 a443 "java/lang/String" "coder" "B" (.int (0 : Int32)) := D_a443 (Or.inr (ow hw 22 rfl)) (ty := .byte) (by decide)
          refine o_dup W444 at_166 rfl (pc' := 167) rfl ?_
          refine o_aload W444 at_167 (v := (.ref a437)) rfl rfl (pc' := 169) rfl ?_
          refine o_callC W444 (rm2_4 l Z a0 hw a443 a437 h444 n0 W444.le cs fm ST_444 hcs r419 r420 r421 r422 q419 q420 q421 q422 A_a437_444 X_a443 F_value_a443 F_coder_a443 b_a443) rfl (ow hw 9 rfl) (ow hw 10 rfl) (ow hw 8 rfl) (ow hw 11 rfl) (by decide) (argsL := [(.ref a437)]) (S := [(.ref a443)]) (lenOf own_pd19 rfl) rfl rfl rfl (wt := 1) rfl (by decide) (by decide) (by decide) (by decide) (kk' := 8) rfl (nn' := 26) rfl at_169 (pc' := 172) rfl ?_
          intro T445 h445 W445 q445 z445
          obtain ⟨XS, KS, ST_445, rb, FV, q445⟩ := q445
          rcases q445 with ⟨hall, FC, AR⟩ | ⟨FC, AR⟩
          · refine o_astore W445 (L' := #[.val (.int x0), .val (.int x1), .val (.int x2), .val (.int x3), .val (.int x4), .val (.int (4 : Int32)), .val (.int r419), .val (.int r420), .val (.int r421), .val (.int r422), .val (.ref a423), .val (.ref a425), .val (.ref a428), .val (.ref a432), .val (.ref a437), .val (.ref a437), .val (.ref a443), .unset]) at_172 rfl rfl (pc' := 174) rfl ?_
            refine o_iconst W445 (v := (1 : Int32)) at_174 rfl (pc' := 175) rfl ?_
            refine o_istore W445 (L' := #[.val (.int x0), .val (.int x1), .val (.int x2), .val (.int x3), .val (.int x4), .val (.int (4 : Int32)), .val (.int r419), .val (.int r420), .val (.int r421), .val (.int r422), .val (.ref a423), .val (.ref a425), .val (.ref a428), .val (.ref a432), .val (.ref a437), .val (.ref a437), .val (.ref a443), .val (.int (1 : Int32))]) at_175 rfl (pc' := 177) rfl ?_
            refine o_iload W445 at_177 (v := (4 : Int32)) rfl (pc' := 179) rfl ?_
            refine o_if_le W445 at_179 (by decide) (pq := 193) (by decide) (pc' := 182) rfl (fun hc179 => ?_) (fun hc179 => ?_)
            · exact absurd hc179 (by decide)
            · refine o_iload W445 at_182 (v := r419) rfl (pc' := 184) rfl ?_
              refine o_callSI W445 (rm18 l Z a0 hw r419 h445 n0 W445.le) (ow hw 81 rfl) (ow hw 82 rfl) (ow hw 2 rfl) (ow hw 83 rfl) (by decide) (argsL := [(.int r419)]) (S := []) (lenOf own_pd20 rfl) rfl rfl rfl (wt := 0) rfl (by decide) (by decide) (by decide) (by decide) (kk' := 8) rfl (nn' := 26) rfl at_184 (pc' := 187) rfl ?_
              intro r446 T446 h446 W446 q446 z446
              obtain ⟨q446, rfl⟩ := q446
              refine OF.join (fun j447 : Int32 => (j447.toInt = 1 ∧ ¬ (r419.toInt = 42 ∨ r419.toInt = 63)) ∨ (j447.toInt = 0 ∧ (r419.toInt = 42 ∨ r419.toInt = 63))) (fun _ => T446) (fun j447 => mkF m 193 #[.val (.int x0), .val (.int x1), .val (.int x2), .val (.int x3), .val (.int x4), .val (.int (4 : Int32)), .val (.int r419), .val (.int r420), .val (.int r421), .val (.int r422), .val (.ref a423), .val (.ref a425), .val (.ref a428), .val (.ref a432), .val (.ref a437), .val (.ref a437), .val (.ref a443), .val (.int j447)] []) (fun j447 hj447 => ?_) (fun k_j447 => ?_)
              · refine o_iload W446 at_193 (v := (4 : Int32)) rfl (pc' := 195) rfl ?_
                refine o_iconst W446 (v := (1 : Int32)) at_195 rfl (pc' := 196) rfl ?_
                refine o_icmp_le W446 at_196 (by decide) (pq := 210) (by decide) (pc' := 199) rfl (fun hc196 => ?_) (fun hc196 => ?_)
                · exact absurd hc196 (by decide)
                · refine o_iload W446 at_199 (v := r420) rfl (pc' := 201) rfl ?_
                  refine o_callSI W446 (rm18 l Z a0 hw r420 h445 n0 W446.le) (ow hw 81 rfl) (ow hw 82 rfl) (ow hw 2 rfl) (ow hw 83 rfl) (by decide) (argsL := [(.int r420)]) (S := []) (lenOf own_pd20 rfl) rfl rfl rfl (wt := 0) rfl (by decide) (by decide) (by decide) (by decide) (kk' := 8) rfl (nn' := 26) rfl at_201 (pc' := 204) rfl ?_
                  intro r448 T448 h448 W448 q448 z448
                  obtain ⟨q448, rfl⟩ := q448
                  refine OF.join (fun j449 : Int32 => (j449.toInt = 1 ∧ ¬ (r419.toInt = 42 ∨ r419.toInt = 63 ∨ r420.toInt = 42 ∨ r420.toInt = 63)) ∨ (j449.toInt = 0 ∧ (r419.toInt = 42 ∨ r419.toInt = 63 ∨ r420.toInt = 42 ∨ r420.toInt = 63))) (fun _ => T448) (fun j449 => mkF m 210 #[.val (.int x0), .val (.int x1), .val (.int x2), .val (.int x3), .val (.int x4), .val (.int (4 : Int32)), .val (.int r419), .val (.int r420), .val (.int r421), .val (.int r422), .val (.ref a423), .val (.ref a425), .val (.ref a428), .val (.ref a432), .val (.ref a437), .val (.ref a437), .val (.ref a443), .val (.int j449)] []) (fun j449 hj449 => ?_) (fun k_j449 => ?_)
                  · refine o_iload W448 at_210 (v := (4 : Int32)) rfl (pc' := 212) rfl ?_
                    refine o_iconst W448 (v := (2 : Int32)) at_212 rfl (pc' := 213) rfl ?_
                    refine o_icmp_le W448 at_213 (by decide) (pq := 227) (by decide) (pc' := 216) rfl (fun hc213 => ?_) (fun hc213 => ?_)
                    · exact absurd hc213 (by decide)
                    · refine o_iload W448 at_216 (v := r421) rfl (pc' := 218) rfl ?_
                      refine o_callSI W448 (rm18 l Z a0 hw r421 h445 n0 W448.le) (ow hw 81 rfl) (ow hw 82 rfl) (ow hw 2 rfl) (ow hw 83 rfl) (by decide) (argsL := [(.int r421)]) (S := []) (lenOf own_pd20 rfl) rfl rfl rfl (wt := 0) rfl (by decide) (by decide) (by decide) (by decide) (kk' := 8) rfl (nn' := 26) rfl at_218 (pc' := 221) rfl ?_
                      intro r450 T450 h450 W450 q450 z450
                      obtain ⟨q450, rfl⟩ := q450
                      refine OF.join (fun j451 : Int32 => (j451.toInt = 1 ∧ ¬ (r419.toInt = 42 ∨ r419.toInt = 63 ∨ r420.toInt = 42 ∨ r420.toInt = 63 ∨ r421.toInt = 42 ∨ r421.toInt = 63)) ∨ (j451.toInt = 0 ∧ (r419.toInt = 42 ∨ r419.toInt = 63 ∨ r420.toInt = 42 ∨ r420.toInt = 63 ∨ r421.toInt = 42 ∨ r421.toInt = 63))) (fun _ => T450) (fun j451 => mkF m 227 #[.val (.int x0), .val (.int x1), .val (.int x2), .val (.int x3), .val (.int x4), .val (.int (4 : Int32)), .val (.int r419), .val (.int r420), .val (.int r421), .val (.int r422), .val (.ref a423), .val (.ref a425), .val (.ref a428), .val (.ref a432), .val (.ref a437), .val (.ref a437), .val (.ref a443), .val (.int j451)] []) (fun j451 hj451 => ?_) (fun k_j451 => ?_)
                      · refine o_iload W450 at_227 (v := (4 : Int32)) rfl (pc' := 229) rfl ?_
                        refine o_iconst W450 (v := (3 : Int32)) at_229 rfl (pc' := 230) rfl ?_
                        refine o_icmp_le W450 at_230 (by decide) (pq := 244) (by decide) (pc' := 233) rfl (fun hc230 => ?_) (fun hc230 => ?_)
                        · exact absurd hc230 (by decide)
                        · refine o_iload W450 at_233 (v := r422) rfl (pc' := 235) rfl ?_
                          refine o_callSI W450 (rm18 l Z a0 hw r422 h445 n0 W450.le) (ow hw 81 rfl) (ow hw 82 rfl) (ow hw 2 rfl) (ow hw 83 rfl) (by decide) (argsL := [(.int r422)]) (S := []) (lenOf own_pd20 rfl) rfl rfl rfl (wt := 0) rfl (by decide) (by decide) (by decide) (by decide) (kk' := 8) rfl (nn' := 26) rfl at_235 (pc' := 238) rfl ?_
                          intro r452 T452 h452 W452 q452 z452
                          obtain ⟨q452, rfl⟩ := q452
                          refine OF.join (fun j453 : Int32 => (j453.toInt = 1 ∧ ¬ (r419.toInt = 42 ∨ r419.toInt = 63 ∨ r420.toInt = 42 ∨ r420.toInt = 63 ∨ r421.toInt = 42 ∨ r421.toInt = 63 ∨ r422.toInt = 42 ∨ r422.toInt = 63)) ∨ (j453.toInt = 0 ∧ (r419.toInt = 42 ∨ r419.toInt = 63 ∨ r420.toInt = 42 ∨ r420.toInt = 63 ∨ r421.toInt = 42 ∨ r421.toInt = 63 ∨ r422.toInt = 42 ∨ r422.toInt = 63))) (fun _ => T452) (fun j453 => mkF m 244 #[.val (.int x0), .val (.int x1), .val (.int x2), .val (.int x3), .val (.int x4), .val (.int (4 : Int32)), .val (.int r419), .val (.int r420), .val (.int r421), .val (.int r422), .val (.ref a423), .val (.ref a425), .val (.ref a428), .val (.ref a432), .val (.ref a437), .val (.ref a437), .val (.ref a443), .val (.int j453)] []) (fun j453 hj453 => ?_) (fun k_j453 => ?_)
                          · refine o_aload W452 at_244 (v := (.ref a443)) rfl rfl (pc' := 246) rfl ?_
                            refine o_callSI W452 (rm5_4L l Z a0 hw a443 h445 n0 W452.le cs fm ST_445 hcs hfm r419 r420 r421 r422 q419 q420 q421 q422 hall rb XS FV FC AR) (ow hw 27 rfl) (ow hw 28 rfl) (ow hw 29 rfl) (ow hw 30 rfl) (by decide) (argsL := [(.ref a443)]) (S := []) (lenOf own_pd21 rfl) rfl rfl rfl (wt := 0) rfl (by decide) (by decide) (by decide) (by decide) (kk' := 8) rfl (nn' := 26) rfl at_246 (pc' := 249) rfl ?_
                            intro r454 T454 h454 W454 q454 z454
                            obtain ⟨q454, rfl⟩ := q454
                            refine o_iload W454 at_249 (v := j453) rfl (pc' := 251) rfl ?_
                            refine o_icmp_ne W454 at_251 (by decide) (pq := 258) (by decide) (pc' := 254) rfl (fun hc251 => ?_) (fun hc251 => ?_)
                            · exfalso
                              have c0 : (0 : Int32).toInt = 0 := rfl
                              have c1 : (1 : Int32).toInt = 1 := rfl
                              rcases q454 with ⟨rfl, u⟩ | ⟨rfl, u⟩ <;> omega
                            · refine o_iconst W454 (v := (1 : Int32)) at_254 rfl (pc' := 255) rfl ?_
                              refine o_goto W454 at_255 (by decide) (pq := 259) (by decide) ?_
                              refine o_retN W454 (t := .boolean) rfl (by simp) at_259 (by decide) (by decide) ?_
                              exact rfl
                          refine o_if_eq W452 at_238 (by decide) (pq := 244) (by decide) (pc' := 241) rfl (fun hc238 => ?_) (fun hc238 => ?_)
                          · exact k_j453 j451 (by have c0 : (0 : Int32).toInt = 0 := rfl; have c1 : (1 : Int32).toInt = 1 := rfl; rcases q452 with ⟨rfl, u⟩ | ⟨rfl, u⟩ <;> omega)
                          · refine o_iconst W452 (v := (0 : Int32)) at_241 rfl (pc' := 242) rfl ?_
                            refine o_istore W452 (L' := #[.val (.int x0), .val (.int x1), .val (.int x2), .val (.int x3), .val (.int x4), .val (.int (4 : Int32)), .val (.int r419), .val (.int r420), .val (.int r421), .val (.int r422), .val (.ref a423), .val (.ref a425), .val (.ref a428), .val (.ref a432), .val (.ref a437), .val (.ref a437), .val (.ref a443), .val (.int (0 : Int32))]) at_242 rfl (pc' := 244) rfl ?_
                            exact k_j453 (0 : Int32) (by have c0 : (0 : Int32).toInt = 0 := rfl; have c1 : (1 : Int32).toInt = 1 := rfl; rcases q452 with ⟨rfl, u⟩ | ⟨rfl, u⟩ <;> omega)
                      refine o_if_eq W450 at_221 (by decide) (pq := 227) (by decide) (pc' := 224) rfl (fun hc221 => ?_) (fun hc221 => ?_)
                      · exact k_j451 j449 (by have c0 : (0 : Int32).toInt = 0 := rfl; have c1 : (1 : Int32).toInt = 1 := rfl; rcases q450 with ⟨rfl, u⟩ | ⟨rfl, u⟩ <;> omega)
                      · refine o_iconst W450 (v := (0 : Int32)) at_224 rfl (pc' := 225) rfl ?_
                        refine o_istore W450 (L' := #[.val (.int x0), .val (.int x1), .val (.int x2), .val (.int x3), .val (.int x4), .val (.int (4 : Int32)), .val (.int r419), .val (.int r420), .val (.int r421), .val (.int r422), .val (.ref a423), .val (.ref a425), .val (.ref a428), .val (.ref a432), .val (.ref a437), .val (.ref a437), .val (.ref a443), .val (.int (0 : Int32))]) at_225 rfl (pc' := 227) rfl ?_
                        exact k_j451 (0 : Int32) (by have c0 : (0 : Int32).toInt = 0 := rfl; have c1 : (1 : Int32).toInt = 1 := rfl; rcases q450 with ⟨rfl, u⟩ | ⟨rfl, u⟩ <;> omega)
                  refine o_if_eq W448 at_204 (by decide) (pq := 210) (by decide) (pc' := 207) rfl (fun hc204 => ?_) (fun hc204 => ?_)
                  · exact k_j449 j447 (by have c0 : (0 : Int32).toInt = 0 := rfl; have c1 : (1 : Int32).toInt = 1 := rfl; rcases q448 with ⟨rfl, u⟩ | ⟨rfl, u⟩ <;> omega)
                  · refine o_iconst W448 (v := (0 : Int32)) at_207 rfl (pc' := 208) rfl ?_
                    refine o_istore W448 (L' := #[.val (.int x0), .val (.int x1), .val (.int x2), .val (.int x3), .val (.int x4), .val (.int (4 : Int32)), .val (.int r419), .val (.int r420), .val (.int r421), .val (.int r422), .val (.ref a423), .val (.ref a425), .val (.ref a428), .val (.ref a432), .val (.ref a437), .val (.ref a437), .val (.ref a443), .val (.int (0 : Int32))]) at_208 rfl (pc' := 210) rfl ?_
                    exact k_j449 (0 : Int32) (by have c0 : (0 : Int32).toInt = 0 := rfl; have c1 : (1 : Int32).toInt = 1 := rfl; rcases q448 with ⟨rfl, u⟩ | ⟨rfl, u⟩ <;> omega)
              refine o_if_eq W446 at_187 (by decide) (pq := 193) (by decide) (pc' := 190) rfl (fun hc187 => ?_) (fun hc187 => ?_)
              · exact k_j447 (1 : Int32) (by have c0 : (0 : Int32).toInt = 0 := rfl; have c1 : (1 : Int32).toInt = 1 := rfl; rcases q446 with ⟨rfl, u⟩ | ⟨rfl, u⟩ <;> omega)
              · refine o_iconst W446 (v := (0 : Int32)) at_190 rfl (pc' := 191) rfl ?_
                refine o_istore W446 (L' := #[.val (.int x0), .val (.int x1), .val (.int x2), .val (.int x3), .val (.int x4), .val (.int (4 : Int32)), .val (.int r419), .val (.int r420), .val (.int r421), .val (.int r422), .val (.ref a423), .val (.ref a425), .val (.ref a428), .val (.ref a432), .val (.ref a437), .val (.ref a437), .val (.ref a443), .val (.int (0 : Int32))]) at_191 rfl (pc' := 193) rfl ?_
                exact k_j447 (0 : Int32) (by have c0 : (0 : Int32).toInt = 0 := rfl; have c1 : (1 : Int32).toInt = 1 := rfl; rcases q446 with ⟨rfl, u⟩ | ⟨rfl, u⟩ <;> omega)
          · refine o_astore W445 (L' := #[.val (.int x0), .val (.int x1), .val (.int x2), .val (.int x3), .val (.int x4), .val (.int (4 : Int32)), .val (.int r419), .val (.int r420), .val (.int r421), .val (.int r422), .val (.ref a423), .val (.ref a425), .val (.ref a428), .val (.ref a432), .val (.ref a437), .val (.ref a437), .val (.ref a443), .unset]) at_172 rfl rfl (pc' := 174) rfl ?_
            refine o_iconst W445 (v := (1 : Int32)) at_174 rfl (pc' := 175) rfl ?_
            refine o_istore W445 (L' := #[.val (.int x0), .val (.int x1), .val (.int x2), .val (.int x3), .val (.int x4), .val (.int (4 : Int32)), .val (.int r419), .val (.int r420), .val (.int r421), .val (.int r422), .val (.ref a423), .val (.ref a425), .val (.ref a428), .val (.ref a432), .val (.ref a437), .val (.ref a437), .val (.ref a443), .val (.int (1 : Int32))]) at_175 rfl (pc' := 177) rfl ?_
            refine o_iload W445 at_177 (v := (4 : Int32)) rfl (pc' := 179) rfl ?_
            refine o_if_le W445 at_179 (by decide) (pq := 193) (by decide) (pc' := 182) rfl (fun hc179 => ?_) (fun hc179 => ?_)
            · exact absurd hc179 (by decide)
            · refine o_iload W445 at_182 (v := r419) rfl (pc' := 184) rfl ?_
              refine o_callSI W445 (rm18 l Z a0 hw r419 h445 n0 W445.le) (ow hw 81 rfl) (ow hw 82 rfl) (ow hw 2 rfl) (ow hw 83 rfl) (by decide) (argsL := [(.int r419)]) (S := []) (lenOf own_pd20 rfl) rfl rfl rfl (wt := 0) rfl (by decide) (by decide) (by decide) (by decide) (kk' := 8) rfl (nn' := 26) rfl at_184 (pc' := 187) rfl ?_
              intro r455 T455 h455 W455 q455 z455
              obtain ⟨q455, rfl⟩ := q455
              refine OF.join (fun j456 : Int32 => (j456.toInt = 1 ∧ ¬ (r419.toInt = 42 ∨ r419.toInt = 63)) ∨ (j456.toInt = 0 ∧ (r419.toInt = 42 ∨ r419.toInt = 63))) (fun _ => T455) (fun j456 => mkF m 193 #[.val (.int x0), .val (.int x1), .val (.int x2), .val (.int x3), .val (.int x4), .val (.int (4 : Int32)), .val (.int r419), .val (.int r420), .val (.int r421), .val (.int r422), .val (.ref a423), .val (.ref a425), .val (.ref a428), .val (.ref a432), .val (.ref a437), .val (.ref a437), .val (.ref a443), .val (.int j456)] []) (fun j456 hj456 => ?_) (fun k_j456 => ?_)
              · refine o_iload W455 at_193 (v := (4 : Int32)) rfl (pc' := 195) rfl ?_
                refine o_iconst W455 (v := (1 : Int32)) at_195 rfl (pc' := 196) rfl ?_
                refine o_icmp_le W455 at_196 (by decide) (pq := 210) (by decide) (pc' := 199) rfl (fun hc196 => ?_) (fun hc196 => ?_)
                · exact absurd hc196 (by decide)
                · refine o_iload W455 at_199 (v := r420) rfl (pc' := 201) rfl ?_
                  refine o_callSI W455 (rm18 l Z a0 hw r420 h445 n0 W455.le) (ow hw 81 rfl) (ow hw 82 rfl) (ow hw 2 rfl) (ow hw 83 rfl) (by decide) (argsL := [(.int r420)]) (S := []) (lenOf own_pd20 rfl) rfl rfl rfl (wt := 0) rfl (by decide) (by decide) (by decide) (by decide) (kk' := 8) rfl (nn' := 26) rfl at_201 (pc' := 204) rfl ?_
                  intro r457 T457 h457 W457 q457 z457
                  obtain ⟨q457, rfl⟩ := q457
                  refine OF.join (fun j458 : Int32 => (j458.toInt = 1 ∧ ¬ (r419.toInt = 42 ∨ r419.toInt = 63 ∨ r420.toInt = 42 ∨ r420.toInt = 63)) ∨ (j458.toInt = 0 ∧ (r419.toInt = 42 ∨ r419.toInt = 63 ∨ r420.toInt = 42 ∨ r420.toInt = 63))) (fun _ => T457) (fun j458 => mkF m 210 #[.val (.int x0), .val (.int x1), .val (.int x2), .val (.int x3), .val (.int x4), .val (.int (4 : Int32)), .val (.int r419), .val (.int r420), .val (.int r421), .val (.int r422), .val (.ref a423), .val (.ref a425), .val (.ref a428), .val (.ref a432), .val (.ref a437), .val (.ref a437), .val (.ref a443), .val (.int j458)] []) (fun j458 hj458 => ?_) (fun k_j458 => ?_)
                  · refine o_iload W457 at_210 (v := (4 : Int32)) rfl (pc' := 212) rfl ?_
                    refine o_iconst W457 (v := (2 : Int32)) at_212 rfl (pc' := 213) rfl ?_
                    refine o_icmp_le W457 at_213 (by decide) (pq := 227) (by decide) (pc' := 216) rfl (fun hc213 => ?_) (fun hc213 => ?_)
                    · exact absurd hc213 (by decide)
                    · refine o_iload W457 at_216 (v := r421) rfl (pc' := 218) rfl ?_
                      refine o_callSI W457 (rm18 l Z a0 hw r421 h445 n0 W457.le) (ow hw 81 rfl) (ow hw 82 rfl) (ow hw 2 rfl) (ow hw 83 rfl) (by decide) (argsL := [(.int r421)]) (S := []) (lenOf own_pd20 rfl) rfl rfl rfl (wt := 0) rfl (by decide) (by decide) (by decide) (by decide) (kk' := 8) rfl (nn' := 26) rfl at_218 (pc' := 221) rfl ?_
                      intro r459 T459 h459 W459 q459 z459
                      obtain ⟨q459, rfl⟩ := q459
                      refine OF.join (fun j460 : Int32 => (j460.toInt = 1 ∧ ¬ (r419.toInt = 42 ∨ r419.toInt = 63 ∨ r420.toInt = 42 ∨ r420.toInt = 63 ∨ r421.toInt = 42 ∨ r421.toInt = 63)) ∨ (j460.toInt = 0 ∧ (r419.toInt = 42 ∨ r419.toInt = 63 ∨ r420.toInt = 42 ∨ r420.toInt = 63 ∨ r421.toInt = 42 ∨ r421.toInt = 63))) (fun _ => T459) (fun j460 => mkF m 227 #[.val (.int x0), .val (.int x1), .val (.int x2), .val (.int x3), .val (.int x4), .val (.int (4 : Int32)), .val (.int r419), .val (.int r420), .val (.int r421), .val (.int r422), .val (.ref a423), .val (.ref a425), .val (.ref a428), .val (.ref a432), .val (.ref a437), .val (.ref a437), .val (.ref a443), .val (.int j460)] []) (fun j460 hj460 => ?_) (fun k_j460 => ?_)
                      · refine o_iload W459 at_227 (v := (4 : Int32)) rfl (pc' := 229) rfl ?_
                        refine o_iconst W459 (v := (3 : Int32)) at_229 rfl (pc' := 230) rfl ?_
                        refine o_icmp_le W459 at_230 (by decide) (pq := 244) (by decide) (pc' := 233) rfl (fun hc230 => ?_) (fun hc230 => ?_)
                        · exact absurd hc230 (by decide)
                        · refine o_iload W459 at_233 (v := r422) rfl (pc' := 235) rfl ?_
                          refine o_callSI W459 (rm18 l Z a0 hw r422 h445 n0 W459.le) (ow hw 81 rfl) (ow hw 82 rfl) (ow hw 2 rfl) (ow hw 83 rfl) (by decide) (argsL := [(.int r422)]) (S := []) (lenOf own_pd20 rfl) rfl rfl rfl (wt := 0) rfl (by decide) (by decide) (by decide) (by decide) (kk' := 8) rfl (nn' := 26) rfl at_235 (pc' := 238) rfl ?_
                          intro r461 T461 h461 W461 q461 z461
                          obtain ⟨q461, rfl⟩ := q461
                          refine OF.join (fun j462 : Int32 => (j462.toInt = 1 ∧ ¬ (r419.toInt = 42 ∨ r419.toInt = 63 ∨ r420.toInt = 42 ∨ r420.toInt = 63 ∨ r421.toInt = 42 ∨ r421.toInt = 63 ∨ r422.toInt = 42 ∨ r422.toInt = 63)) ∨ (j462.toInt = 0 ∧ (r419.toInt = 42 ∨ r419.toInt = 63 ∨ r420.toInt = 42 ∨ r420.toInt = 63 ∨ r421.toInt = 42 ∨ r421.toInt = 63 ∨ r422.toInt = 42 ∨ r422.toInt = 63))) (fun _ => T461) (fun j462 => mkF m 244 #[.val (.int x0), .val (.int x1), .val (.int x2), .val (.int x3), .val (.int x4), .val (.int (4 : Int32)), .val (.int r419), .val (.int r420), .val (.int r421), .val (.int r422), .val (.ref a423), .val (.ref a425), .val (.ref a428), .val (.ref a432), .val (.ref a437), .val (.ref a437), .val (.ref a443), .val (.int j462)] []) (fun j462 hj462 => ?_) (fun k_j462 => ?_)
                          · refine o_aload W461 at_244 (v := (.ref a443)) rfl rfl (pc' := 246) rfl ?_
                            refine o_callSI W461 (rm5_4U l Z a0 hw a443 h445 n0 W461.le cs fm ST_445 hcs hfm r419 r420 r421 r422 q419 q420 q421 q422 rb XS FV FC AR) (ow hw 27 rfl) (ow hw 28 rfl) (ow hw 29 rfl) (ow hw 30 rfl) (by decide) (argsL := [(.ref a443)]) (S := []) (lenOf own_pd21 rfl) rfl rfl rfl (wt := 0) rfl (by decide) (by decide) (by decide) (by decide) (kk' := 8) rfl (nn' := 26) rfl at_246 (pc' := 249) rfl ?_
                            intro r463 T463 h463 W463 q463 z463
                            obtain ⟨q463, rfl⟩ := q463
                            refine o_iload W463 at_249 (v := j462) rfl (pc' := 251) rfl ?_
                            refine o_icmp_ne W463 at_251 (by decide) (pq := 258) (by decide) (pc' := 254) rfl (fun hc251 => ?_) (fun hc251 => ?_)
                            · exfalso
                              have c0 : (0 : Int32).toInt = 0 := rfl
                              have c1 : (1 : Int32).toInt = 1 := rfl
                              rcases q463 with ⟨rfl, u⟩ | ⟨rfl, u⟩ <;> omega
                            · refine o_iconst W463 (v := (1 : Int32)) at_254 rfl (pc' := 255) rfl ?_
                              refine o_goto W463 at_255 (by decide) (pq := 259) (by decide) ?_
                              refine o_retN W463 (t := .boolean) rfl (by simp) at_259 (by decide) (by decide) ?_
                              exact rfl
                          refine o_if_eq W461 at_238 (by decide) (pq := 244) (by decide) (pc' := 241) rfl (fun hc238 => ?_) (fun hc238 => ?_)
                          · exact k_j462 j460 (by have c0 : (0 : Int32).toInt = 0 := rfl; have c1 : (1 : Int32).toInt = 1 := rfl; rcases q461 with ⟨rfl, u⟩ | ⟨rfl, u⟩ <;> omega)
                          · refine o_iconst W461 (v := (0 : Int32)) at_241 rfl (pc' := 242) rfl ?_
                            refine o_istore W461 (L' := #[.val (.int x0), .val (.int x1), .val (.int x2), .val (.int x3), .val (.int x4), .val (.int (4 : Int32)), .val (.int r419), .val (.int r420), .val (.int r421), .val (.int r422), .val (.ref a423), .val (.ref a425), .val (.ref a428), .val (.ref a432), .val (.ref a437), .val (.ref a437), .val (.ref a443), .val (.int (0 : Int32))]) at_242 rfl (pc' := 244) rfl ?_
                            exact k_j462 (0 : Int32) (by have c0 : (0 : Int32).toInt = 0 := rfl; have c1 : (1 : Int32).toInt = 1 := rfl; rcases q461 with ⟨rfl, u⟩ | ⟨rfl, u⟩ <;> omega)
                      refine o_if_eq W459 at_221 (by decide) (pq := 227) (by decide) (pc' := 224) rfl (fun hc221 => ?_) (fun hc221 => ?_)
                      · exact k_j460 j458 (by have c0 : (0 : Int32).toInt = 0 := rfl; have c1 : (1 : Int32).toInt = 1 := rfl; rcases q459 with ⟨rfl, u⟩ | ⟨rfl, u⟩ <;> omega)
                      · refine o_iconst W459 (v := (0 : Int32)) at_224 rfl (pc' := 225) rfl ?_
                        refine o_istore W459 (L' := #[.val (.int x0), .val (.int x1), .val (.int x2), .val (.int x3), .val (.int x4), .val (.int (4 : Int32)), .val (.int r419), .val (.int r420), .val (.int r421), .val (.int r422), .val (.ref a423), .val (.ref a425), .val (.ref a428), .val (.ref a432), .val (.ref a437), .val (.ref a437), .val (.ref a443), .val (.int (0 : Int32))]) at_225 rfl (pc' := 227) rfl ?_
                        exact k_j460 (0 : Int32) (by have c0 : (0 : Int32).toInt = 0 := rfl; have c1 : (1 : Int32).toInt = 1 := rfl; rcases q459 with ⟨rfl, u⟩ | ⟨rfl, u⟩ <;> omega)
                  refine o_if_eq W457 at_204 (by decide) (pq := 210) (by decide) (pc' := 207) rfl (fun hc204 => ?_) (fun hc204 => ?_)
                  · exact k_j458 j456 (by have c0 : (0 : Int32).toInt = 0 := rfl; have c1 : (1 : Int32).toInt = 1 := rfl; rcases q457 with ⟨rfl, u⟩ | ⟨rfl, u⟩ <;> omega)
                  · refine o_iconst W457 (v := (0 : Int32)) at_207 rfl (pc' := 208) rfl ?_
                    refine o_istore W457 (L' := #[.val (.int x0), .val (.int x1), .val (.int x2), .val (.int x3), .val (.int x4), .val (.int (4 : Int32)), .val (.int r419), .val (.int r420), .val (.int r421), .val (.int r422), .val (.ref a423), .val (.ref a425), .val (.ref a428), .val (.ref a432), .val (.ref a437), .val (.ref a437), .val (.ref a443), .val (.int (0 : Int32))]) at_208 rfl (pc' := 210) rfl ?_
                    exact k_j458 (0 : Int32) (by have c0 : (0 : Int32).toInt = 0 := rfl; have c1 : (1 : Int32).toInt = 1 := rfl; rcases q457 with ⟨rfl, u⟩ | ⟨rfl, u⟩ <;> omega)
              refine o_if_eq W455 at_187 (by decide) (pq := 193) (by decide) (pc' := 190) rfl (fun hc187 => ?_) (fun hc187 => ?_)
              · exact k_j456 (1 : Int32) (by have c0 : (0 : Int32).toInt = 0 := rfl; have c1 : (1 : Int32).toInt = 1 := rfl; rcases q455 with ⟨rfl, u⟩ | ⟨rfl, u⟩ <;> omega)
              · refine o_iconst W455 (v := (0 : Int32)) at_190 rfl (pc' := 191) rfl ?_
                refine o_istore W455 (L' := #[.val (.int x0), .val (.int x1), .val (.int x2), .val (.int x3), .val (.int x4), .val (.int (4 : Int32)), .val (.int r419), .val (.int r420), .val (.int r421), .val (.int r422), .val (.ref a423), .val (.ref a425), .val (.ref a428), .val (.ref a432), .val (.ref a437), .val (.ref a437), .val (.ref a443), .val (.int (0 : Int32))]) at_191 rfl (pc' := 193) rfl ?_
                exact k_j456 (0 : Int32) (by have c0 : (0 : Int32).toInt = 0 := rfl; have c1 : (1 : Int32).toInt = 1 := rfl; rcases q455 with ⟨rfl, u⟩ | ⟨rfl, u⟩ <;> omega)
        · exact absurd hc149 (by decide)
      · exact absurd hc136 (by decide)
    · exact absurd hc123 (by decide)
  · exact absurd hc110 (by decide)
theorem own_EL {a0 : Array Value} {Z : State} (hw : ∀ d ∈ tables_1, d.before a0 Z = true) : EW Z a0 consts_1 := EW.cons (ow hw 19 rfl) (by decide) EW.nil
theorem own_wS {a0 : Array Value} {Z : State} (hw : ∀ d ∈ tables_1, d.before a0 Z = true) : ∀ a ∈ Bundle.stringAtoms, a.before a0 Z = true := by
  intro a ha
  simp only [Bundle.stringAtoms, List.mem_cons, List.not_mem_nil, or_false] at ha
  rcases ha with rfl | rfl | rfl | rfl | rfl | rfl | rfl
  · exact ow hw 8 rfl
  · exact ow hw 7 rfl
  · exact ow hw 20 rfl
  · exact ow hw 21 rfl
  · exact ow hw 22 rfl
  · exact ow hw 23 rfl
  · exact ow hw 24 rfl
theorem own_ef3_0 (m : MethodId) (z0 : Addr) (z1 : Addr) (z2 : Int32) (z3 : Int32) : entryFrame m #[(.ref z0), (.ref z1), (.int z2), (.int z3), .null] 6 = mkF m 0 #[.val (.ref z0), .val (.ref z1), .val (.int z2), .val (.int z3), .val .null, .unset] [] := by first | (simp [entryFrame, mkF, argsToLocals, Value.category]; done) | rfl
theorem own_d3_8 : decode jdk_42_method_149_code 8 = .ok (.aload_n 0, 1) := by decide +kernel
theorem own_d3_9 : decode jdk_42_method_149_code 9 = .ok (.ldc 7, 2) := by decide +kernel
theorem own_d3_11 : decode jdk_42_method_149_code 11 = .ok (.getfield 9, 3) := by decide +kernel
theorem own_d3_14 : decode jdk_42_method_149_code 14 = .ok (.putfield 9, 3) := by decide +kernel
theorem own_d3_17 : decode jdk_42_method_149_code 17 = .ok (.aload_n 0, 1) := by decide +kernel
theorem own_d3_18 : decode jdk_42_method_149_code 18 = .ok (.ldc 7, 2) := by decide +kernel
theorem own_d3_20 : decode jdk_42_method_149_code 20 = .ok (.getfield 15, 3) := by decide +kernel
theorem own_d3_23 : decode jdk_42_method_149_code 23 = .ok (.putfield 15, 3) := by decide +kernel
theorem own_d3_26 : decode jdk_42_method_149_code 26 = .ok (.return_, 1) := by decide +kernel
set_option maxRecDepth 65536 in
set_option maxHeartbeats 4000000 in
theorem rm3_0 (l : Launch) (Z : State) (a0 : Array Value) (hw : ∀ d ∈ tables_1, d.before a0 Z = true) (b0 b1 : Addr) (h0 : Heap) (n0 : Nat) (Z0 : n0 ≤ h0.size) (cs : Int32) (fm : Value) (ST : OSt Z h0 cs fm) (E0 : Exa Z h0 b0 "java/lang/String") (Fv : Fld Z h0 b0 "java/lang/String" "value" "[B" .null) (Fc : Fld Z h0 b0 "java/lang/String" "coder" "B" (.int (0 : Int32))) (g0 : n0 ≤ b0) :
    OConW l Z consts_1 (⟨"java/lang/String", "<init>", "([CIILjava/lang/Void;)V"⟩ : MethodName) jdk_42_method_149_code 6 none [] ({ frames := 1, cells := 2, slots := 4, locals := 12 } : Room) #[(.ref b0), (.ref b1), (.int (0 : Int32)), (.int (0 : Int32)), .null] h0 n0 (QV fun h' => Exa Z h' b0 "java/lang/String" ∧ OSt Z h' cs fm ∧ ∃ r, Fld Z h' b0 "java/lang/String" "value" "[B" (.ref r) ∧ Fld Z h' b0 "java/lang/String" "coder" "B" (.int 0) ∧ OA Z h' r .byte []) := by
  refine OConW.mk (plainFor_of_name own_pn4) Z0 ?_
  intro p e s m below meth cd s₁ W0 H0
  refine OF.cast (own_ef3_0 m b0 b1 (0 : Int32) (0 : Int32)) ?_
  have c_0___Int32_ : (0 : Int32).toInt = 0 := rfl
  refine o_aloadN W0 own_d3_0 (v := (.ref b0)) rfl rfl (pc' := 1) rfl ?_
  refine o_initO W0 (ow hw 16 rfl) (ow hw 17 rfl) (ow hw 18 rfl) rfl (wt := 0) rfl (by decide) (by decide) own_d3_1 (pc' := 4) rfl ?_
  intro T464 W464
  refine o_iloadN W464 own_d3_4 (v := (0 : Int32)) rfl (pc' := 5) rfl ?_
  refine o_if_ne W464 own_d3_5 (by decide) (pq := 27) (by decide) (pc' := 8) rfl (fun hc5 => ?_) (fun hc5 => ?_)
  · exact absurd hc5 (by decide)
  · refine o_aloadN W464 own_d3_8 (v := (.ref b0)) rfl rfl (pc' := 9) rfl ?_
    refine o_ldcE W464 (ow hw 19 rfl) (own_wS hw) (own_EL hw) (by decide) H0 own_d3_9 (pc' := 11) rfl (by decide) (by decide) (kk' := 2) rfl (nn' := 4) rfl ?_
    intro T465 h465 vm1 kx ac bc W465 hS hkx E465 XC FCc FCv AB La
    have X_b0_465 := Exa.ext E465 E0
    have Fv_465 := Fld.ext E465 Fv
    have Fc_465 := Fld.ext E465 Fc
    have ST_465 := ST.ext E465
    have ne_ac_b0 : ac ≠ b0 := Fld.ne FCv Fv_465 (fun q => by cases q)
    have ne_bc_b0 : bc ≠ b0 := fun q => by
      obtain ⟨_, _, cl, A, _⟩ := AB
      exact ne_arr X_b0_465 (ow hw 7 rfl) A q.symm
    refine o_getF W465 (ow hw 25 rfl) FCv own_d3_11 (pc' := 14) rfl ?_
    intro T466 W466
    refine o_putF W466 (ow hw 25 rfl) Fv_465 X_b0_465 (Or.inr ⟨(ow hw 21 rfl), rfl, rfl⟩) (ow hw 7 rfl) (ty := (.array .byte)) (by decide) (v' := (.ref bc)) rfl rfl g0 own_d3_14 (pc' := 17) rfl ?_
    intro T467 h467 W467 R467
    have F_value_b0_467 := Fv_465.same R467
    have F_coder_b0_467 := Fld.other R467 Fc_465 (Or.inr (slot_ne (Or.inr (ow hw 22 rfl)) (Or.inr (ow hw 21 rfl)) (by decide) (t := .byte) (t' := (.array .byte)) (by decide) (by decide)))
    have X_b0_467 := Exa.wr R467 X_b0_465
    have X_ac_467 := Exa.wr R467 XC
    have F_value_ac_467 := Fld.other R467 FCv (Or.inl ne_ac_b0)
    have F_coder_ac_467 := Fld.other R467 FCc (Or.inl ne_ac_b0)
    have A_bc_467 := AB.keep1 (Keep.of_wr R467) ne_bc_b0
    have ST_467 := ST_465.wr R467
    refine o_aloadN W467 own_d3_17 (v := (.ref b0)) rfl rfl (pc' := 18) rfl ?_
    refine o_ldcA W467 (ow hw 19 rfl) La own_d3_18 (pc' := 20) rfl ?_
    refine o_getF W467 (ow hw 26 rfl) F_coder_ac_467 own_d3_20 (pc' := 23) rfl ?_
    intro T468 W468
    refine o_putF W468 (ow hw 26 rfl) F_coder_b0_467 X_b0_467 (Or.inr ⟨(ow hw 22 rfl), rfl, rfl⟩) (ow hw 7 rfl) (ty := .byte) (by decide) (v' := (.int (nar .byte (0 : Int32)))) rfl (fits_nar_byte _) g0 own_d3_23 (pc' := 26) rfl ?_
    intro T469 h469 W469 R469
    have F_value_b0_469 := Fld.other R469 F_value_b0_467 (Or.inr (slot_ne (Or.inr (ow hw 21 rfl)) (Or.inr (ow hw 22 rfl)) (by decide) (t := (.array .byte)) (t' := .byte) (by decide) (by decide)))
    have F_coder_b0_469 := F_coder_b0_467.same R469
    have X_b0_469 := Exa.wr R469 X_b0_467
    have X_ac_469 := Exa.wr R469 X_ac_467
    have F_value_ac_469 := Fld.other R469 F_value_ac_467 (Or.inl ne_ac_b0)
    have F_coder_ac_469 := Fld.other R469 F_coder_ac_467 (Or.inl ne_ac_b0)
    have A_bc_469 := A_bc_467.keep1 (Keep.of_wr R469) ne_bc_b0
    have ST_469 := ST_467.wr R469
    have hkz : kx ≤ h469.size := Nat.le_trans hkx (Nat.le_of_eq (R469.size.trans R467.size).symm)
    refine o_retVW W469 hS hkz rfl own_d3_26 (by decide) (by decide) ?_
    exact ⟨rfl, X_b0_469, ST_469, bc, F_value_b0_469, F_coder_b0_469, A_bc_469⟩
theorem own_ef2_0 (m : MethodId) (z0 : Addr) (z1 : Addr) : entryFrame m #[(.ref z0), (.ref z1)] 2 = mkF m 0 #[.val (.ref z0), .val (.ref z1)] [] := by first | (simp [entryFrame, mkF, argsToLocals, Value.category]; done) | rfl
set_option maxRecDepth 65536 in
set_option maxHeartbeats 4000000 in
theorem rm2_0 (l : Launch) (Z : State) (a0 : Array Value) (hw : ∀ d ∈ tables_1, d.before a0 Z = true) (b0 : Addr) (b1 : Addr) (h0 : Heap) (n0 : Nat) (Z0 : n0 ≤ h0.size) (A1 : OA Z h0 b1 .char []) (cs : Int32) (fm : Value) (ST : OSt Z h0 cs fm) (E0 : Exa Z h0 b0 "java/lang/String") (Fv : Fld Z h0 b0 "java/lang/String" "value" "[B" .null) (Fc : Fld Z h0 b0 "java/lang/String" "coder" "B" (.int (0 : Int32))) (g0 : n0 ≤ b0) :
    OConW l Z consts_1 (⟨"java/lang/String", "<init>", "([C)V"⟩ : MethodName) jdk_42_method_3_code 2 none [] ({ frames := 2, cells := 2, slots := 4, locals := 29 } : Room) #[(.ref b0), (.ref b1)] h0 n0 (QV fun h' => Exa Z h' b0 "java/lang/String" ∧ OSt Z h' cs fm ∧ ∃ r, Fld Z h' b0 "java/lang/String" "value" "[B" (.ref r) ∧ Fld Z h' b0 "java/lang/String" "coder" "B" (.int 0) ∧ OA Z h' r .byte []) := by
  refine OConW.mk (plainFor_of_name own_pn4) Z0 ?_
  intro p e s m below meth cd s₁ W0 H0
  refine OF.cast (own_ef2_0 m b0 b1) ?_
  refine o_aloadN W0 own_d2_0 (v := (.ref b0)) rfl rfl (pc' := 1) rfl ?_
  refine o_aloadN W0 own_d2_1 (v := (.ref b1)) rfl rfl (pc' := 2) rfl ?_
  refine o_iconst W0 (v := (0 : Int32)) own_d2_2 rfl (pc' := 3) rfl ?_
  refine o_aloadN W0 own_d2_3 (v := (.ref b1)) rfl rfl (pc' := 4) rfl ?_
  refine o_arraylength W0 A1 own_d2_4 (pc' := 5) rfl ?_
  intro v470 hv470
  obtain rfl : v470 = (0 : Int32) := o_eq (y := (0 : Int32)) hv470
  refine o_aconstNull W0 own_d2_5 (pc' := 6) rfl ?_
  refine o_callCW W0 (rm3_0 l Z a0 hw b0 b1 h0 n0 W0.le cs fm ST E0 Fv Fc g0) (own_EL hw) H0 rfl (ow hw 12 rfl) (ow hw 13 rfl) (ow hw 8 rfl) (ow hw 15 rfl) (by decide) (argsL := [(.ref b1), (.int (0 : Int32)), (.int (0 : Int32)), .null]) (S := []) (lenOf own_pd14 rfl) rfl rfl rfl (wt := 0) rfl (by decide) (by decide) (by decide) (by decide) (kk' := 2) rfl (nn' := 4) rfl own_d2_6 (pc' := 9) rfl ?_
  intro T471 h471 vm1 W471 hS q471 z471
  refine o_retVW W471 hS (Nat.le_refl _) rfl own_d2_9 (by decide) (by decide) ?_
  exact ⟨rfl, q471⟩
theorem own_ef0_0 (m : MethodId) (z0 : Int32) (z1 : Int32) (z2 : Int32) (z3 : Int32) (z4 : Int32) : entryFrame m #[(.int z0), (.int z1), (.int z2), (.int z3), (.int z4)] maxLocals = mkF m 0 #[.val (.int z0), .val (.int z1), .val (.int z2), .val (.int z3), .val (.int z4), .unset, .unset, .unset, .unset, .unset, .unset, .unset, .unset, .unset, .unset, .unset, .unset, .unset] [] := by first | (simp [entryFrame, mkF, argsToLocals, Value.category, maxLocals]; done) | rfl
set_option maxRecDepth 65536 in
set_option maxHeartbeats 4000000 in
theorem own_law_0 (l : Launch) (Z : State) (a0 : Array Value) (hw : ∀ d ∈ tables_1, d.before a0 Z = true) (x0 : Int32) (x1 : Int32) (x2 : Int32) (x3 : Int32) (x4 : Int32) (h0 : Heap) (n0 : Nat) (Z0 : n0 ≤ h0.size) (cs : Int32) (fm : Value) (ST : OSt Z h0 cs fm) (hcs : ¬ cs.toInt = 0) (hfm : fm.isRef = true) (hx0 : (x0 &&& 7) - (x0 &&& 7) / 5 * 5 = (0 : Int32)) :
    OConW l Z consts_1 x code maxLocals ret tables_1 room_1 #[(.int x0), (.int x1), (.int x2), (.int x3), (.int x4)] h0 n0 (fun v _ => v = some (.int 1)) := by
  refine OConW.mk (plainFor_of_name own_pn0) Z0 ?_
  intro p e s m below meth cd s₁ W0 H0
  refine OF.cast (own_ef0_0 m x0 x1 x2 x3 x4) ?_
  refine o_iloadN W0 at_0 (v := x0) rfl (pc' := 1) rfl ?_
  refine o_bipush W0 (v := (7 : Int32)) at_1 rfl (pc' := 3) rfl ?_
  refine o_iand W0 at_3 (pc' := 4) rfl ?_
  refine o_iconst W0 (v := (5 : Int32)) at_4 rfl (pc' := 5) rfl ?_
  refine o_irem W0 at_5 (by decide) (pc' := 6) rfl ?_
  rw [hx0]
  refine o_istore W0 (L' := #[.val (.int x0), .val (.int x1), .val (.int x2), .val (.int x3), .val (.int x4), .val (.int (0 : Int32)), .unset, .unset, .unset, .unset, .unset, .unset, .unset, .unset, .unset, .unset, .unset, .unset]) at_6 rfl (pc' := 8) rfl ?_
  refine o_iloadN W0 at_8 (v := x1) rfl (pc' := 9) rfl ?_
  refine o_callSI W0 (rm1 l Z a0 hw x1 h0 n0 W0.le) (ow hw 0 rfl) (ow hw 1 rfl) (ow hw 2 rfl) (ow hw 3 rfl) (by decide) (argsL := [(.int x1)]) (S := []) (lenOf own_pd18 rfl) rfl rfl rfl (wt := 0) rfl (by decide) (by decide) (by decide) (by decide) (kk' := 0) rfl (nn' := 0) rfl at_9 (pc' := 12) rfl ?_
  intro r472 T472 h472 W472 q472 z472
  obtain ⟨q472, rfl⟩ := q472
  refine o_istore W472 (L' := #[.val (.int x0), .val (.int x1), .val (.int x2), .val (.int x3), .val (.int x4), .val (.int (0 : Int32)), .val (.int r472), .unset, .unset, .unset, .unset, .unset, .unset, .unset, .unset, .unset, .unset, .unset]) at_12 rfl (pc' := 14) rfl ?_
  refine o_iloadN W472 at_14 (v := x2) rfl (pc' := 15) rfl ?_
  refine o_callSI W472 (rm1 l Z a0 hw x2 h0 n0 W472.le) (ow hw 0 rfl) (ow hw 1 rfl) (ow hw 2 rfl) (ow hw 3 rfl) (by decide) (argsL := [(.int x2)]) (S := []) (lenOf own_pd18 rfl) rfl rfl rfl (wt := 0) rfl (by decide) (by decide) (by decide) (by decide) (kk' := 0) rfl (nn' := 0) rfl at_15 (pc' := 18) rfl ?_
  intro r473 T473 h473 W473 q473 z473
  obtain ⟨q473, rfl⟩ := q473
  refine o_istore W473 (L' := #[.val (.int x0), .val (.int x1), .val (.int x2), .val (.int x3), .val (.int x4), .val (.int (0 : Int32)), .val (.int r472), .val (.int r473), .unset, .unset, .unset, .unset, .unset, .unset, .unset, .unset, .unset, .unset]) at_18 rfl (pc' := 20) rfl ?_
  refine o_iloadN W473 at_20 (v := x3) rfl (pc' := 21) rfl ?_
  refine o_callSI W473 (rm1 l Z a0 hw x3 h0 n0 W473.le) (ow hw 0 rfl) (ow hw 1 rfl) (ow hw 2 rfl) (ow hw 3 rfl) (by decide) (argsL := [(.int x3)]) (S := []) (lenOf own_pd18 rfl) rfl rfl rfl (wt := 0) rfl (by decide) (by decide) (by decide) (by decide) (kk' := 0) rfl (nn' := 0) rfl at_21 (pc' := 24) rfl ?_
  intro r474 T474 h474 W474 q474 z474
  obtain ⟨q474, rfl⟩ := q474
  refine o_istore W474 (L' := #[.val (.int x0), .val (.int x1), .val (.int x2), .val (.int x3), .val (.int x4), .val (.int (0 : Int32)), .val (.int r472), .val (.int r473), .val (.int r474), .unset, .unset, .unset, .unset, .unset, .unset, .unset, .unset, .unset]) at_24 rfl (pc' := 26) rfl ?_
  refine o_iload W474 at_26 (v := x4) rfl (pc' := 28) rfl ?_
  refine o_callSI W474 (rm1 l Z a0 hw x4 h0 n0 W474.le) (ow hw 0 rfl) (ow hw 1 rfl) (ow hw 2 rfl) (ow hw 3 rfl) (by decide) (argsL := [(.int x4)]) (S := []) (lenOf own_pd18 rfl) rfl rfl rfl (wt := 0) rfl (by decide) (by decide) (by decide) (by decide) (kk' := 0) rfl (nn' := 0) rfl at_28 (pc' := 31) rfl ?_
  intro r475 T475 h475 W475 q475 z475
  obtain ⟨q475, rfl⟩ := q475
  refine o_istore W475 (L' := #[.val (.int x0), .val (.int x1), .val (.int x2), .val (.int x3), .val (.int x4), .val (.int (0 : Int32)), .val (.int r472), .val (.int r473), .val (.int r474), .val (.int r475), .unset, .unset, .unset, .unset, .unset, .unset, .unset, .unset]) at_31 rfl (pc' := 33) rfl ?_
  refine o_iconst W475 (v := (0 : Int32)) at_33 rfl (pc' := 34) rfl ?_
  refine o_newarray W475 (ty := .char) (len := 0) (cap := 0) (ow hw 5 rfl) rfl rfl rfl at_34 (pc' := 36) rfl rfl (by decide) (by decide) (by decide) (by decide) (kk' := 1) rfl (nn' := 0) rfl ?_
  intro T477 h477 a476 W477 E477 g_a476 A_a476
  have b_a476 : n0 ≤ a476 := by rw [g_a476]; exact W475.le
  have A_a476 : OA Z h477 a476 .char [] := A_a476
  have CH_477 := CHv.ext E477 H0
  have ST_477 := ST.ext E477
  refine o_astore W477 (L' := #[.val (.int x0), .val (.int x1), .val (.int x2), .val (.int x3), .val (.int x4), .val (.int (0 : Int32)), .val (.int r472), .val (.int r473), .val (.int r474), .val (.int r475), .val (.ref a476), .unset, .unset, .unset, .unset, .unset, .unset, .unset]) at_36 rfl rfl (pc' := 38) rfl ?_
  refine o_iconst W477 (v := (1 : Int32)) at_38 rfl (pc' := 39) rfl ?_
  refine o_newarray W477 (ty := .char) (len := 1) (cap := 1) (ow hw 5 rfl) rfl rfl rfl at_39 (pc' := 41) rfl rfl (by decide) (by decide) (by decide) (by decide) (kk' := 2) rfl (nn' := 1) rfl ?_
  intro T479 h479 a478 W479 E479 g_a478 A_a478
  have b_a478 : n0 ≤ a478 := by rw [g_a478]; exact W477.le
  have ne_a476_a478 : a476 ≠ a478 := Nat.ne_of_lt (Nat.lt_of_lt_of_le A_a476.lt (Nat.le_of_eq g_a478.symm))
  have A_a476_479 := A_a476.ext E479
  have A_a478 : OA Z h479 a478 .char [0] := A_a478
  have CH_479 := CHv.ext E479 CH_477
  have ST_479 := ST_477.ext E479
  refine o_dup W479 at_41 rfl (pc' := 42) rfl ?_
  refine o_iconst W479 (v := (0 : Int32)) at_42 rfl (pc' := 43) rfl ?_
  refine o_iload W479 at_43 (v := r472) rfl (pc' := 45) rfl ?_
  refine o_castore W479 A_a478 b_a478 at_45 (pc' := 46) rfl (i := 0) rfl (Nat.le_of_ble_eq_true rfl) ?_
  intro T480 h480 W480 K480 A_a478_480
  have A_a476_480 := A_a476_479.keep1 K480 ne_a476_a478
  have CH_480 := o_chvA CH_479 W0.hZ.alike A_a478 K480
  have ST_480 := ST_479.keepA A_a478 K480
  have A_a478_480 : OA Z h480 a478 .char [(r472.toUInt32.toUInt16.toUInt32.toInt32)] := A_a478_480
  refine o_astore W480 (L' := #[.val (.int x0), .val (.int x1), .val (.int x2), .val (.int x3), .val (.int x4), .val (.int (0 : Int32)), .val (.int r472), .val (.int r473), .val (.int r474), .val (.int r475), .val (.ref a476), .val (.ref a478), .unset, .unset, .unset, .unset, .unset, .unset]) at_46 rfl rfl (pc' := 48) rfl ?_
  refine o_iconst W480 (v := (2 : Int32)) at_48 rfl (pc' := 49) rfl ?_
  refine o_newarray W480 (ty := .char) (len := 2) (cap := 2) (ow hw 5 rfl) rfl rfl rfl at_49 (pc' := 51) rfl rfl (by decide) (by decide) (by decide) (by decide) (kk' := 3) rfl (nn' := 3) rfl ?_
  intro T482 h482 a481 W482 E482 g_a481 A_a481
  have b_a481 : n0 ≤ a481 := by rw [g_a481]; exact W480.le
  have ne_a476_a481 : a476 ≠ a481 := Nat.ne_of_lt (Nat.lt_of_lt_of_le A_a476_480.lt (Nat.le_of_eq g_a481.symm))
  have A_a476_482 := A_a476_480.ext E482
  have ne_a478_a481 : a478 ≠ a481 := Nat.ne_of_lt (Nat.lt_of_lt_of_le A_a478_480.lt (Nat.le_of_eq g_a481.symm))
  have A_a478_482 := A_a478_480.ext E482
  have A_a481 : OA Z h482 a481 .char [0, 0] := A_a481
  have CH_482 := CHv.ext E482 CH_480
  have ST_482 := ST_480.ext E482
  refine o_dup W482 at_51 rfl (pc' := 52) rfl ?_
  refine o_iconst W482 (v := (0 : Int32)) at_52 rfl (pc' := 53) rfl ?_
  refine o_iload W482 at_53 (v := r472) rfl (pc' := 55) rfl ?_
  refine o_castore W482 A_a481 b_a481 at_55 (pc' := 56) rfl (i := 0) rfl (Nat.le_of_ble_eq_true rfl) ?_
  intro T483 h483 W483 K483 A_a481_483
  have A_a476_483 := A_a476_482.keep1 K483 ne_a476_a481
  have A_a478_483 := A_a478_482.keep1 K483 ne_a478_a481
  have CH_483 := o_chvA CH_482 W0.hZ.alike A_a481 K483
  have ST_483 := ST_482.keepA A_a481 K483
  have A_a481_483 : OA Z h483 a481 .char [(r472.toUInt32.toUInt16.toUInt32.toInt32), 0] := A_a481_483
  refine o_dup W483 at_56 rfl (pc' := 57) rfl ?_
  refine o_iconst W483 (v := (1 : Int32)) at_57 rfl (pc' := 58) rfl ?_
  refine o_iload W483 at_58 (v := r473) rfl (pc' := 60) rfl ?_
  refine o_castore W483 A_a481_483 b_a481 at_60 (pc' := 61) rfl (i := 1) rfl (Nat.le_of_ble_eq_true rfl) ?_
  intro T484 h484 W484 K484 A_a481_484
  have A_a476_484 := A_a476_483.keep1 K484 ne_a476_a481
  have A_a478_484 := A_a478_483.keep1 K484 ne_a478_a481
  have CH_484 := o_chvA CH_483 W0.hZ.alike A_a481_483 K484
  have ST_484 := ST_483.keepA A_a481_483 K484
  have A_a481_484 : OA Z h484 a481 .char [(r472.toUInt32.toUInt16.toUInt32.toInt32), (r473.toUInt32.toUInt16.toUInt32.toInt32)] := A_a481_484
  refine o_astore W484 (L' := #[.val (.int x0), .val (.int x1), .val (.int x2), .val (.int x3), .val (.int x4), .val (.int (0 : Int32)), .val (.int r472), .val (.int r473), .val (.int r474), .val (.int r475), .val (.ref a476), .val (.ref a478), .val (.ref a481), .unset, .unset, .unset, .unset, .unset]) at_61 rfl rfl (pc' := 63) rfl ?_
  refine o_iconst W484 (v := (3 : Int32)) at_63 rfl (pc' := 64) rfl ?_
  refine o_newarray W484 (ty := .char) (len := 3) (cap := 3) (ow hw 5 rfl) rfl rfl rfl at_64 (pc' := 66) rfl rfl (by decide) (by decide) (by decide) (by decide) (kk' := 4) rfl (nn' := 6) rfl ?_
  intro T486 h486 a485 W486 E486 g_a485 A_a485
  have b_a485 : n0 ≤ a485 := by rw [g_a485]; exact W484.le
  have ne_a476_a485 : a476 ≠ a485 := Nat.ne_of_lt (Nat.lt_of_lt_of_le A_a476_484.lt (Nat.le_of_eq g_a485.symm))
  have A_a476_486 := A_a476_484.ext E486
  have ne_a478_a485 : a478 ≠ a485 := Nat.ne_of_lt (Nat.lt_of_lt_of_le A_a478_484.lt (Nat.le_of_eq g_a485.symm))
  have A_a478_486 := A_a478_484.ext E486
  have ne_a481_a485 : a481 ≠ a485 := Nat.ne_of_lt (Nat.lt_of_lt_of_le A_a481_484.lt (Nat.le_of_eq g_a485.symm))
  have A_a481_486 := A_a481_484.ext E486
  have A_a485 : OA Z h486 a485 .char [0, 0, 0] := A_a485
  have CH_486 := CHv.ext E486 CH_484
  have ST_486 := ST_484.ext E486
  refine o_dup W486 at_66 rfl (pc' := 67) rfl ?_
  refine o_iconst W486 (v := (0 : Int32)) at_67 rfl (pc' := 68) rfl ?_
  refine o_iload W486 at_68 (v := r472) rfl (pc' := 70) rfl ?_
  refine o_castore W486 A_a485 b_a485 at_70 (pc' := 71) rfl (i := 0) rfl (Nat.le_of_ble_eq_true rfl) ?_
  intro T487 h487 W487 K487 A_a485_487
  have A_a476_487 := A_a476_486.keep1 K487 ne_a476_a485
  have A_a478_487 := A_a478_486.keep1 K487 ne_a478_a485
  have A_a481_487 := A_a481_486.keep1 K487 ne_a481_a485
  have CH_487 := o_chvA CH_486 W0.hZ.alike A_a485 K487
  have ST_487 := ST_486.keepA A_a485 K487
  have A_a485_487 : OA Z h487 a485 .char [(r472.toUInt32.toUInt16.toUInt32.toInt32), 0, 0] := A_a485_487
  refine o_dup W487 at_71 rfl (pc' := 72) rfl ?_
  refine o_iconst W487 (v := (1 : Int32)) at_72 rfl (pc' := 73) rfl ?_
  refine o_iload W487 at_73 (v := r473) rfl (pc' := 75) rfl ?_
  refine o_castore W487 A_a485_487 b_a485 at_75 (pc' := 76) rfl (i := 1) rfl (Nat.le_of_ble_eq_true rfl) ?_
  intro T488 h488 W488 K488 A_a485_488
  have A_a476_488 := A_a476_487.keep1 K488 ne_a476_a485
  have A_a478_488 := A_a478_487.keep1 K488 ne_a478_a485
  have A_a481_488 := A_a481_487.keep1 K488 ne_a481_a485
  have CH_488 := o_chvA CH_487 W0.hZ.alike A_a485_487 K488
  have ST_488 := ST_487.keepA A_a485_487 K488
  have A_a485_488 : OA Z h488 a485 .char [(r472.toUInt32.toUInt16.toUInt32.toInt32), (r473.toUInt32.toUInt16.toUInt32.toInt32), 0] := A_a485_488
  refine o_dup W488 at_76 rfl (pc' := 77) rfl ?_
  refine o_iconst W488 (v := (2 : Int32)) at_77 rfl (pc' := 78) rfl ?_
  refine o_iload W488 at_78 (v := r474) rfl (pc' := 80) rfl ?_
  refine o_castore W488 A_a485_488 b_a485 at_80 (pc' := 81) rfl (i := 2) rfl (Nat.le_of_ble_eq_true rfl) ?_
  intro T489 h489 W489 K489 A_a485_489
  have A_a476_489 := A_a476_488.keep1 K489 ne_a476_a485
  have A_a478_489 := A_a478_488.keep1 K489 ne_a478_a485
  have A_a481_489 := A_a481_488.keep1 K489 ne_a481_a485
  have CH_489 := o_chvA CH_488 W0.hZ.alike A_a485_488 K489
  have ST_489 := ST_488.keepA A_a485_488 K489
  have A_a485_489 : OA Z h489 a485 .char [(r472.toUInt32.toUInt16.toUInt32.toInt32), (r473.toUInt32.toUInt16.toUInt32.toInt32), (r474.toUInt32.toUInt16.toUInt32.toInt32)] := A_a485_489
  refine o_astore W489 (L' := #[.val (.int x0), .val (.int x1), .val (.int x2), .val (.int x3), .val (.int x4), .val (.int (0 : Int32)), .val (.int r472), .val (.int r473), .val (.int r474), .val (.int r475), .val (.ref a476), .val (.ref a478), .val (.ref a481), .val (.ref a485), .unset, .unset, .unset, .unset]) at_81 rfl rfl (pc' := 83) rfl ?_
  refine o_iconst W489 (v := (4 : Int32)) at_83 rfl (pc' := 84) rfl ?_
  refine o_newarray W489 (ty := .char) (len := 4) (cap := 4) (ow hw 5 rfl) rfl rfl rfl at_84 (pc' := 86) rfl rfl (by decide) (by decide) (by decide) (by decide) (kk' := 5) rfl (nn' := 10) rfl ?_
  intro T491 h491 a490 W491 E491 g_a490 A_a490
  have b_a490 : n0 ≤ a490 := by rw [g_a490]; exact W489.le
  have ne_a476_a490 : a476 ≠ a490 := Nat.ne_of_lt (Nat.lt_of_lt_of_le A_a476_489.lt (Nat.le_of_eq g_a490.symm))
  have A_a476_491 := A_a476_489.ext E491
  have ne_a478_a490 : a478 ≠ a490 := Nat.ne_of_lt (Nat.lt_of_lt_of_le A_a478_489.lt (Nat.le_of_eq g_a490.symm))
  have A_a478_491 := A_a478_489.ext E491
  have ne_a481_a490 : a481 ≠ a490 := Nat.ne_of_lt (Nat.lt_of_lt_of_le A_a481_489.lt (Nat.le_of_eq g_a490.symm))
  have A_a481_491 := A_a481_489.ext E491
  have ne_a485_a490 : a485 ≠ a490 := Nat.ne_of_lt (Nat.lt_of_lt_of_le A_a485_489.lt (Nat.le_of_eq g_a490.symm))
  have A_a485_491 := A_a485_489.ext E491
  have A_a490 : OA Z h491 a490 .char [0, 0, 0, 0] := A_a490
  have CH_491 := CHv.ext E491 CH_489
  have ST_491 := ST_489.ext E491
  refine o_dup W491 at_86 rfl (pc' := 87) rfl ?_
  refine o_iconst W491 (v := (0 : Int32)) at_87 rfl (pc' := 88) rfl ?_
  refine o_iload W491 at_88 (v := r472) rfl (pc' := 90) rfl ?_
  refine o_castore W491 A_a490 b_a490 at_90 (pc' := 91) rfl (i := 0) rfl (Nat.le_of_ble_eq_true rfl) ?_
  intro T492 h492 W492 K492 A_a490_492
  have A_a476_492 := A_a476_491.keep1 K492 ne_a476_a490
  have A_a478_492 := A_a478_491.keep1 K492 ne_a478_a490
  have A_a481_492 := A_a481_491.keep1 K492 ne_a481_a490
  have A_a485_492 := A_a485_491.keep1 K492 ne_a485_a490
  have CH_492 := o_chvA CH_491 W0.hZ.alike A_a490 K492
  have ST_492 := ST_491.keepA A_a490 K492
  have A_a490_492 : OA Z h492 a490 .char [(r472.toUInt32.toUInt16.toUInt32.toInt32), 0, 0, 0] := A_a490_492
  refine o_dup W492 at_91 rfl (pc' := 92) rfl ?_
  refine o_iconst W492 (v := (1 : Int32)) at_92 rfl (pc' := 93) rfl ?_
  refine o_iload W492 at_93 (v := r473) rfl (pc' := 95) rfl ?_
  refine o_castore W492 A_a490_492 b_a490 at_95 (pc' := 96) rfl (i := 1) rfl (Nat.le_of_ble_eq_true rfl) ?_
  intro T493 h493 W493 K493 A_a490_493
  have A_a476_493 := A_a476_492.keep1 K493 ne_a476_a490
  have A_a478_493 := A_a478_492.keep1 K493 ne_a478_a490
  have A_a481_493 := A_a481_492.keep1 K493 ne_a481_a490
  have A_a485_493 := A_a485_492.keep1 K493 ne_a485_a490
  have CH_493 := o_chvA CH_492 W0.hZ.alike A_a490_492 K493
  have ST_493 := ST_492.keepA A_a490_492 K493
  have A_a490_493 : OA Z h493 a490 .char [(r472.toUInt32.toUInt16.toUInt32.toInt32), (r473.toUInt32.toUInt16.toUInt32.toInt32), 0, 0] := A_a490_493
  refine o_dup W493 at_96 rfl (pc' := 97) rfl ?_
  refine o_iconst W493 (v := (2 : Int32)) at_97 rfl (pc' := 98) rfl ?_
  refine o_iload W493 at_98 (v := r474) rfl (pc' := 100) rfl ?_
  refine o_castore W493 A_a490_493 b_a490 at_100 (pc' := 101) rfl (i := 2) rfl (Nat.le_of_ble_eq_true rfl) ?_
  intro T494 h494 W494 K494 A_a490_494
  have A_a476_494 := A_a476_493.keep1 K494 ne_a476_a490
  have A_a478_494 := A_a478_493.keep1 K494 ne_a478_a490
  have A_a481_494 := A_a481_493.keep1 K494 ne_a481_a490
  have A_a485_494 := A_a485_493.keep1 K494 ne_a485_a490
  have CH_494 := o_chvA CH_493 W0.hZ.alike A_a490_493 K494
  have ST_494 := ST_493.keepA A_a490_493 K494
  have A_a490_494 : OA Z h494 a490 .char [(r472.toUInt32.toUInt16.toUInt32.toInt32), (r473.toUInt32.toUInt16.toUInt32.toInt32), (r474.toUInt32.toUInt16.toUInt32.toInt32), 0] := A_a490_494
  refine o_dup W494 at_101 rfl (pc' := 102) rfl ?_
  refine o_iconst W494 (v := (3 : Int32)) at_102 rfl (pc' := 103) rfl ?_
  refine o_iload W494 at_103 (v := r475) rfl (pc' := 105) rfl ?_
  refine o_castore W494 A_a490_494 b_a490 at_105 (pc' := 106) rfl (i := 3) rfl (Nat.le_of_ble_eq_true rfl) ?_
  intro T495 h495 W495 K495 A_a490_495
  have A_a476_495 := A_a476_494.keep1 K495 ne_a476_a490
  have A_a478_495 := A_a478_494.keep1 K495 ne_a478_a490
  have A_a481_495 := A_a481_494.keep1 K495 ne_a481_a490
  have A_a485_495 := A_a485_494.keep1 K495 ne_a485_a490
  have CH_495 := o_chvA CH_494 W0.hZ.alike A_a490_494 K495
  have ST_495 := ST_494.keepA A_a490_494 K495
  have A_a490_495 : OA Z h495 a490 .char [(r472.toUInt32.toUInt16.toUInt32.toInt32), (r473.toUInt32.toUInt16.toUInt32.toInt32), (r474.toUInt32.toUInt16.toUInt32.toInt32), (r475.toUInt32.toUInt16.toUInt32.toInt32)] := A_a490_495
  refine o_astore W495 (L' := #[.val (.int x0), .val (.int x1), .val (.int x2), .val (.int x3), .val (.int x4), .val (.int (0 : Int32)), .val (.int r472), .val (.int r473), .val (.int r474), .val (.int r475), .val (.ref a476), .val (.ref a478), .val (.ref a481), .val (.ref a485), .val (.ref a490), .unset, .unset, .unset]) at_106 rfl rfl (pc' := 108) rfl ?_
  refine o_iload W495 at_108 (v := (0 : Int32)) rfl (pc' := 110) rfl ?_
  refine o_if_ne W495 at_110 (by decide) (pq := 120) (by decide) (pc' := 113) rfl (fun hc110 => ?_) (fun hc110 => ?_)
  · exact absurd hc110 (by decide)
  · refine o_aload W495 at_113 (v := (.ref a476)) rfl rfl (pc' := 115) rfl ?_
    refine o_astore W495 (L' := #[.val (.int x0), .val (.int x1), .val (.int x2), .val (.int x3), .val (.int x4), .val (.int (0 : Int32)), .val (.int r472), .val (.int r473), .val (.int r474), .val (.int r475), .val (.ref a476), .val (.ref a478), .val (.ref a481), .val (.ref a485), .val (.ref a490), .val (.ref a476), .unset, .unset]) at_115 rfl rfl (pc' := 117) rfl ?_
    refine o_goto W495 at_117 (by decide) (pq := 163) (by decide) ?_
    refine o_new W495 (ow hw 6 rfl) (ow hw 7 rfl) (ow hw 8 rfl) at_163 (pc' := 166) rfl (by decide) (by decide) (kk' := 6) rfl (nn' := 14) rfl ?_
    intro T497 h497 a496 W497 E497 g_a496 X_a496 D_a496
    have b_a496 : n0 ≤ a496 := by rw [g_a496]; exact W495.le
    have ne_a476_a496 : a476 ≠ a496 := Nat.ne_of_lt (Nat.lt_of_lt_of_le A_a476_495.lt (Nat.le_of_eq g_a496.symm))
    have A_a476_497 := A_a476_495.ext E497
    have CH_497 := CHv.ext E497 CH_495
    have ST_497 := ST_495.ext E497
    have F_value_a496 : Fld Z h497 a496 "java/lang/String" "value" "[B" .null := D_a496 (Or.inr (ow hw 21 rfl)) (ty := (.array .byte)) (by decide)
    have F_coder_a496 : Fld Z h497 a496 "java/lang/String" "coder" "B" (.int (0 : Int32)) := D_a496 (Or.inr (ow hw 22 rfl)) (ty := .byte) (by decide)
    refine o_dup W497 at_166 rfl (pc' := 167) rfl ?_
    refine o_aload W497 at_167 (v := (.ref a476)) rfl rfl (pc' := 169) rfl ?_
    refine o_callCW W497 (rm2_0 l Z a0 hw a496 a476 h497 n0 W497.le A_a476_497 cs fm ST_497 X_a496 F_value_a496 F_coder_a496 b_a496) (own_EL hw) CH_497 rfl (ow hw 9 rfl) (ow hw 10 rfl) (ow hw 8 rfl) (ow hw 11 rfl) (by decide) (argsL := [(.ref a476)]) (S := [(.ref a496)]) (lenOf own_pd19 rfl) rfl rfl rfl (wt := 1) rfl (by decide) (by decide) (by decide) (by decide) (kk' := 8) rfl (nn' := 18) rfl at_169 (pc' := 172) rfl ?_
    intro T498 h498 vm1 W498 hS q498 z498
    obtain ⟨XS, ST_498, rb, FV, FC, AR⟩ := q498
    refine o_astore W498 (L' := #[.val (.int x0), .val (.int x1), .val (.int x2), .val (.int x3), .val (.int x4), .val (.int (0 : Int32)), .val (.int r472), .val (.int r473), .val (.int r474), .val (.int r475), .val (.ref a476), .val (.ref a478), .val (.ref a481), .val (.ref a485), .val (.ref a490), .val (.ref a476), .val (.ref a496), .unset]) at_172 rfl rfl (pc' := 174) rfl ?_
    refine o_iconst W498 (v := (1 : Int32)) at_174 rfl (pc' := 175) rfl ?_
    refine o_istore W498 (L' := #[.val (.int x0), .val (.int x1), .val (.int x2), .val (.int x3), .val (.int x4), .val (.int (0 : Int32)), .val (.int r472), .val (.int r473), .val (.int r474), .val (.int r475), .val (.ref a476), .val (.ref a478), .val (.ref a481), .val (.ref a485), .val (.ref a490), .val (.ref a476), .val (.ref a496), .val (.int (1 : Int32))]) at_175 rfl (pc' := 177) rfl ?_
    refine o_iload W498 at_177 (v := (0 : Int32)) rfl (pc' := 179) rfl ?_
    refine o_if_le W498 at_179 (by decide) (pq := 193) (by decide) (pc' := 182) rfl (fun hc179 => ?_) (fun hc179 => ?_)
    · refine o_iload W498 at_193 (v := (0 : Int32)) rfl (pc' := 195) rfl ?_
      refine o_iconst W498 (v := (1 : Int32)) at_195 rfl (pc' := 196) rfl ?_
      refine o_icmp_le W498 at_196 (by decide) (pq := 210) (by decide) (pc' := 199) rfl (fun hc196 => ?_) (fun hc196 => ?_)
      · refine o_iload W498 at_210 (v := (0 : Int32)) rfl (pc' := 212) rfl ?_
        refine o_iconst W498 (v := (2 : Int32)) at_212 rfl (pc' := 213) rfl ?_
        refine o_icmp_le W498 at_213 (by decide) (pq := 227) (by decide) (pc' := 216) rfl (fun hc213 => ?_) (fun hc213 => ?_)
        · refine o_iload W498 at_227 (v := (0 : Int32)) rfl (pc' := 229) rfl ?_
          refine o_iconst W498 (v := (3 : Int32)) at_229 rfl (pc' := 230) rfl ?_
          refine o_icmp_le W498 at_230 (by decide) (pq := 244) (by decide) (pc' := 233) rfl (fun hc230 => ?_) (fun hc230 => ?_)
          · refine o_aload W498 at_244 (v := (.ref a496)) rfl rfl (pc' := 246) rfl ?_
            refine o_callSI W498 (rm5_0L l Z a0 hw a496 h498 n0 W498.le cs fm ST_498 hcs hfm rb XS FV FC AR) (ow hw 27 rfl) (ow hw 28 rfl) (ow hw 29 rfl) (ow hw 30 rfl) (by decide) (argsL := [(.ref a496)]) (S := []) (lenOf own_pd21 rfl) rfl rfl rfl (wt := 0) rfl (by decide) (by decide) (by decide) (by decide) (kk' := 8) rfl (nn' := 18) rfl at_246 (pc' := 249) rfl ?_
            intro r499 T499 h499 W499 q499 z499
            obtain ⟨q499, rfl⟩ := q499
            refine o_iload W499 at_249 (v := (1 : Int32)) rfl (pc' := 251) rfl ?_
            refine o_icmp_ne W499 at_251 (by decide) (pq := 258) (by decide) (pc' := 254) rfl (fun hc251 => ?_) (fun hc251 => ?_)
            · exfalso
              have c0 : (0 : Int32).toInt = 0 := rfl
              have c1 : (1 : Int32).toInt = 1 := rfl
              rcases q499 with ⟨rfl, u⟩ | ⟨rfl, u⟩ <;> omega
            · refine o_iconst W499 (v := (1 : Int32)) at_254 rfl (pc' := 255) rfl ?_
              refine o_goto W499 at_255 (by decide) (pq := 259) (by decide) ?_
              refine o_retNW W499 (t := .boolean) hS (Nat.le_refl _) rfl (by simp) at_259 (by decide) (by decide) ?_
              exact rfl
          · exact absurd hc230 (by decide)
        · exact absurd hc213 (by decide)
      · exact absurd hc196 (by decide)
    · exact absurd hc179 (by decide)
theorem own_eqs {args : Array Value} {s : State} {t : Term} {n : Int32} (h : (Jvm.Cond.eq t (.int n)).before args s = true) : t.eval args s none [] s = some (.int n) := Jvm.Free.NT.SwA.eq_int h
set_option maxRecDepth 65536 in
theorem comes_1 {Post : Tables → Env → Array Value → State → Outcome → State → Prop} (hpost : ∀ tb e args s v u, (limb_1_1.after args s (.returned v) u = true ∧ limb_1_2.after args s (.returned v) u = true ∧ True) → Jvm.ReturnedEndW s (.returned v) u (Jvm.fieldLocs frame_1_writes args s ++ Jvm.arrayLocs frame_1_arrays args s ++ Jvm.staticLocs frame_1_statics s) 32 1152 → Post tb e args s (.returned v) u) :
    ArmFor flags0 classFile x code maxLocals ret World_1 tables_1 room_1 Calls_1 rest_1 Pre_1 Post := by
  intro l hfl _ _ p e ha hc hk s m args below hf hA hF happ hP
  obtain ⟨hcalls, hrest, hpre⟩ := hP
  obtain ⟨-, -, -, hnamed, -, -, -, hat⟩ := (Spec.applies_iff hf).mp happ
  obtain ⟨hg, hn⟩ := and_e (Cond.before_iff.mp (show (Jvm.Cond.and given_1 narrow_1).before args s = true from hpre))
  obtain ⟨g0, hg1⟩ := and_e hg
  obtain ⟨q0, hg2⟩ := and_e hg1
  obtain ⟨q1, hg3⟩ := and_e hg2
  obtain ⟨q2, hg4⟩ := and_e hg3
  obtain ⟨q3, q4⟩ := and_e hg4
  obtain ⟨w0, w1, w2, w3, w4, rfl⟩ : ∃ w0 w1 w2 w3 w4 : Value, args = #[w0, w1, w2, w3, w4] := by
    have hs : args.size = 5 := by simpa [Cond.value, given_1] using g0
    obtain ⟨L⟩ := args
    match L, hs with
    | [w0, w1, w2, w3, w4], _ => exact ⟨w0, w1, w2, w3, w4, rfl⟩
  have hw := fun d (hd : d ∈ tables_1) => atoms_spec (ws := Jvm.Cond.code x code maxLocals ret :: tables_1) hat d (List.mem_cons_of_mem _ hd)
  obtain ⟨hsets, hown0⟩ := atoms_of _ (rest_1_c_eq ▸ (show rest_1_c.before _ s = true from hrest))
  obtain ⟨i0, ei0⟩ := is_v q0
  obtain rfl : w0 = (.int i0) := Option.some.inj ei0
  obtain ⟨i1, ei1⟩ := is_v q1
  obtain rfl : w1 = (.int i1) := Option.some.inj ei1
  obtain ⟨i2, ei2⟩ := is_v q2
  obtain rfl : w2 = (.int i2) := Option.some.inj ei2
  obtain ⟨i3, ei3⟩ := is_v q3
  obtain rfl : w3 = (.int i3) := Option.some.inj ei3
  obtain ⟨i4, ei4⟩ := is_v q4
  obtain rfl : w4 = (.int i4) := Option.some.inj ei4
  obtain ⟨cs, ecs⟩ := is_v (Cond.before_iff.mp (hsets _ (List.mem_of_getElem? (i := 1) rfl)))
  have S1 := Sta.start ecs (Or.inl (hsets _ (List.mem_of_getElem? (i := 0) rfl)))
  obtain ⟨fm, efm, hfm⟩ := isR_v (Cond.before_iff.mp (hsets _ (List.mem_of_getElem? (i := 8) rfl)))
  have S5 := Sta.start efm (Or.inl (hsets _ (List.mem_of_getElem? (i := 7) rfl)))
  have S2 := Sta.start (own_eqs (hsets _ (List.mem_of_getElem? (i := 12) rfl))) (Or.inl (hsets _ (List.mem_of_getElem? (i := 11) rfl)))
  have S3 := Sta.start (own_eqs (hsets _ (List.mem_of_getElem? (i := 15) rfl))) (Or.inl (hsets _ (List.mem_of_getElem? (i := 14) rfl)))
  have S4 := Sta.start (own_eqs (hsets _ (List.mem_of_getElem? (i := 18) rfl))) (Or.inl (hsets _ (List.mem_of_getElem? (i := 17) rfl)))
  have hcs0 : ¬ (cs = (0 : Int32)) := gotF (Cond.eq_ints ecs (Term.int_eval (0))) (not_v (Cond.before_iff.mp (hsets _ (List.mem_of_getElem? (i := 2) rfl))))
  have hcs : ¬ cs.toInt = 0 := fun q => hcs0 (o_eq q)
  have ST : OSt s s.heap cs fm := ⟨S1, S2, S3, S4, S5⟩
  have HC : CHv s consts_1 s.vm s.heap := CHv.start (own_EL hw) (show Jvm.Lit.constsHeld consts_1 s from hcalls.1) (hsets _ (List.mem_of_getElem? (i := 2) rfl)) (ow hw 20 rfl) (ow hw 7 rfl)
  have key : ∃ n o, (∀ k, k < n → Within (stepsAlone p.tables e k s) below) ∧ (stepsAlone p.tables e n s).status = .running ∧ Ended (stepsAlone p.tables e n s) below o ∧ ∃ v L, o = .returned v ∧ OQ (fun v _ => v = some (.int 1)) s.heap.size s.heap.size v (stepsAlone p.tables e n s).heap L ∧ Jvm.ReturnedEndW s o (stepsAlone p.tables e n s) L room_1.cells room_1.slots := by
    rcases own_len5 i0 with h | h | h | h | h
    · exact own_law_0 l s _ hw i0 i1 i2 i3 i4 s.heap s.heap.size (Nat.le_refl _) cs fm ST hcs hfm h p e ha hc hk s m _ below hf ((Spec.applies_iff_loose hf).mp happ).1 ⟨rfl, State.Warmed39.refl s, rfl, HC⟩ trivial
    · obtain ⟨n, o, h1, h2, h3, v, L, h4, h5, h6⟩ := own_law_1 l s _ hw i0 i1 i2 i3 i4 s.heap s.heap.size (Nat.le_refl _) cs fm ST hcs hfm h p e ha hc hk s m _ below hf ((Spec.applies_iff_loose hf).mp happ).1 ⟨rfl, State.Warmed39.refl s, rfl⟩ trivial
      exact ⟨n, o, h1, h2, h3, v, L, h4, h5, ReturnedEndW.of_narrow h6.1 h6.2.1 h6.2.2⟩
    · obtain ⟨n, o, h1, h2, h3, v, L, h4, h5, h6⟩ := own_law_2 l s _ hw i0 i1 i2 i3 i4 s.heap s.heap.size (Nat.le_refl _) cs fm ST hcs hfm h p e ha hc hk s m _ below hf ((Spec.applies_iff_loose hf).mp happ).1 ⟨rfl, State.Warmed39.refl s, rfl⟩ trivial
      exact ⟨n, o, h1, h2, h3, v, L, h4, h5, ReturnedEndW.of_narrow h6.1 h6.2.1 h6.2.2⟩
    · obtain ⟨n, o, h1, h2, h3, v, L, h4, h5, h6⟩ := own_law_3 l s _ hw i0 i1 i2 i3 i4 s.heap s.heap.size (Nat.le_refl _) cs fm ST hcs hfm h p e ha hc hk s m _ below hf ((Spec.applies_iff_loose hf).mp happ).1 ⟨rfl, State.Warmed39.refl s, rfl⟩ trivial
      exact ⟨n, o, h1, h2, h3, v, L, h4, h5, ReturnedEndW.of_narrow h6.1 h6.2.1 h6.2.2⟩
    · obtain ⟨n, o, h1, h2, h3, v, L, h4, h5, h6⟩ := own_law_4 l s _ hw i0 i1 i2 i3 i4 s.heap s.heap.size (Nat.le_refl _) cs fm ST hcs hfm h p e ha hc hk s m _ below hf ((Spec.applies_iff_loose hf).mp happ).1 ⟨rfl, State.Warmed39.refl s, rfl⟩ trivial
      exact ⟨n, o, h1, h2, h3, v, L, h4, h5, ReturnedEndW.of_narrow h6.1 h6.2.1 h6.2.2⟩
  obtain ⟨n, o, h1, h2, h3, _, L, rfl, ⟨rfl, -, N⟩, hq⟩ := key
  refine ⟨n, _, h1, h2, h3, hpost _ _ _ _ _ _ ⟨Cond.after_iff.mpr rfl, Cond.after_iff.mpr (eq_i res_at (Term.int_eval (1)) rfl), trivial⟩ ⟨hq.1, hq.2.1, hq.2.2.1, (hq.2.2.2.sift fun y hy => Or.inr (N y hy)).mono (by decide) (by decide)⟩⟩
theorem main_1_1 : Claimed_1_1 := comes_1 fun _ _ _ _ _ _ h hF => ⟨h.1, hF⟩
theorem main_1_2 : Claimed_1_2 := comes_1 fun _ _ _ _ _ _ h hF => ⟨h.2.1, hF⟩
end Jvm.Pilot.@@N@@
namespace Jvm.Pilot.@@N@@
open Jvm Jvm.ClassFile Sem Op Lib Jvm.Free Jvm.Stand Jvm.Pilot.@@N@@.Jvm.D
/-! MADE BY PROGRAM (witnessworld.py) out of the Statement's table words and the real class files: 21 classes; the members and pool entries that the words name. The judged class is class 1, her method 3. -/
namespace start1
open Jvm.ClassFile
def u (s : String) : CpInfo := .utf8 (stringToUtf16 s)
/-- a pool by its gaps: so many unusable entries, then the entry; so many at the end -/
def gap : Nat → List CpInfo → List CpInfo
  | 0, r => r
  | n + 1, r => .unusable :: gap n r
def poolList (es : List (Nat × CpInfo)) (last : Nat) : List CpInfo := es.foldr (fun e r => gap e.1 (e.2 :: r)) (gap last [])
def pool (es : List (Nat × CpInfo)) (last : Nat) : Array CpInfo := ⟨poolList es last⟩
def fileOf (pool : Array CpInfo) (this : Nat) (attrs : Array Attribute := #[]) (ms : Array MethodInfo := #[]) (fl : Nat := 33) (sup : Nat := 0) (ifs : Array Nat := #[]) (fds : Array FieldInfo := #[]) : ClassFile where
  minorVersion := 0
  majorVersion := 65
  constantPool := pool
  accessFlags := fl
  thisClass := this
  superClass := sup
  interfaces := ifs
  fields := fds
  methods := ms
  attributes := attrs
def plain (name : String) (sup : Option ClassId) : Class where
  name := name
  kind := .ordinary
  loader := none
  accessFlags := 33
  super := sup
  interfaces := #[]
  cf := none
  fields := #[]
  methods := #[]
  instanceTypes := #[]
  staticTypes := #[]
  resolved := #[]
  callSites := []
  init := .initialized
  statics := none
  mirror := none

def pool0 : Array CpInfo := pool [(5, u "<init>"), (0, u "()V"), (1, .class_ 10), (1, u "java/lang/Object")] 113

def k0c0 : Code := { maxStack := 0, maxLocals := 1, code := object_method_1_code, exceptionTable := #[], attributes := #[] }
def k0m0 : Method := { name := "<init>", desc := "()V", sig := { parameters := [], returnType := none }, accessFlags := 1, code := some k0c0 }
/-- java/lang/Object -/
def k0 : Class := { plain "java/lang/Object" none with
  accessFlags := 33
  interfaces := #[]
  cf := some (fileOf pool0 8 #[] #[{ accessFlags := 1, nameIndex := 5, descriptorIndex := 6, attributes := #[] }] 33 0 #[] #[])
  fields := #[]
  methods := #[k0m0]
  instanceTypes := #[]
  staticTypes := #[]
  resolved := Array.replicate 124 none
  statics := none }

def pool1 : Array CpInfo := pool [(2, .class_ 4), (1, u "java/lang/Object"), (0, u "<init>"), (0, u "()V"), (0, .integer 65535), (0, .methodref 9 10), (0, .class_ 11), (0, .nameAndType 12 13), (0, u "com/example/austere_access/austereaccess/policy/GlobIsLiteralPinLaw"), (0, u "ch"), (0, u "(I)C"), (0, .class_ 15), (0, u "java/lang/String"), (0, .methodref 14 17), (0, .nameAndType 5 18), (0, u "([C)V"), (0, .methodref 9 20), (0, .nameAndType 21 22), (0, u "wild"), (0, u "(C)Z"), (0, .methodref 24 25), (0, .class_ 26), (0, .nameAndType 27 28), (0, u "com/example/austere_access/austereaccess/policy/Glob"), (0, u "isLiteral"), (0, u "(Ljava/lang/String;)Z"), (3, u "law"), (0, u "(IIIII)Z")] 4

def k1m0 : Method := { name := "<init>", desc := "()V", sig := { parameters := [], returnType := none }, accessFlags := 1, code := none }
def k1c1 : Code := { maxStack := 2, maxLocals := 2, code := method_2_code, exceptionTable := #[], attributes := #[] }
def k1m1 : Method := { name := "ch", desc := "(I)C", sig := { parameters := [.int], returnType := some .char }, accessFlags := 10, code := some k1c1 }
def k1c2 : Code := { maxStack := 2, maxLocals := 1, code := method_3_code, exceptionTable := #[], attributes := #[] }
def k1m2 : Method := { name := "wild", desc := "(C)Z", sig := { parameters := [.char], returnType := some .boolean }, accessFlags := 10, code := some k1c2 }
def k1c3 : Code := { maxStack := 4, maxLocals := 18, code := code, exceptionTable := #[], attributes := #[] }
def k1m3 : Method := { name := "law", desc := "(IIIII)Z", sig := { parameters := [.int, .int, .int, .int, .int], returnType := some .boolean }, accessFlags := 9, code := some k1c3 }
/-- com/example/austere_access/austereaccess/policy/GlobIsLiteralPinLaw -/
def k1 : Class := { plain "com/example/austere_access/austereaccess/policy/GlobIsLiteralPinLaw" (some 0) with
  accessFlags := 49
  interfaces := #[]
  cf := some (fileOf pool1 9 #[] #[{ accessFlags := 1, nameIndex := 5, descriptorIndex := 6, attributes := #[] }, { accessFlags := 10, nameIndex := 12, descriptorIndex := 13, attributes := #[] }, { accessFlags := 10, nameIndex := 21, descriptorIndex := 22, attributes := #[] }, { accessFlags := 9, nameIndex := 32, descriptorIndex := 33, attributes := #[] }] 49 2 #[] #[])
  fields := #[]
  methods := #[k1m0, k1m1, k1m2, k1m3]
  instanceTypes := #[]
  staticTypes := #[]
  resolved := Array.replicate 38 none
  statics := none }

def pool2 : Array CpInfo := pool [(1, .class_ 2), (0, u "java/io/Serializable"), (0, .class_ 4), (0, u "java/lang/Object")] 2

/-- java/io/Serializable -/
def k2 : Class := { plain "java/io/Serializable" (some 0) with
  accessFlags := 1537
  interfaces := #[]
  cf := some (fileOf pool2 1 #[] #[] 1537 3 #[] #[])
  fields := #[]
  methods := #[]
  instanceTypes := #[]
  staticTypes := #[]
  resolved := Array.replicate 7 none
  statics := none }

def pool3 : Array CpInfo := pool [(1, .class_ 2), (0, u "java/lang/Comparable"), (0, .class_ 4), (0, u "java/lang/Object")] 7

/-- java/lang/Comparable -/
def k3 : Class := { plain "java/lang/Comparable" (some 0) with
  accessFlags := 1537
  interfaces := #[]
  cf := some (fileOf pool3 1 #[] #[] 1537 3 #[] #[])
  fields := #[]
  methods := #[]
  instanceTypes := #[]
  staticTypes := #[]
  resolved := Array.replicate 12 none
  statics := none }

def pool4 : Array CpInfo := pool [(2, .class_ 4), (1, u "java/lang/CharSequence"), (42, .class_ 48), (0, u "java/lang/CharSequence$1CodePointIterator"), (10, .class_ 60), (0, u "java/lang/CharSequence$1CharIterator"), (5, .class_ 67), (0, u "java/lang/Object")] 63

/-- java/lang/CharSequence -/
def k4 : Class := { plain "java/lang/CharSequence" (some 0) with
  accessFlags := 1537
  interfaces := #[]
  cf := some (fileOf pool4 2 #[.nestMembers #[47, 59]] #[] 1537 66 #[] #[])
  fields := #[]
  methods := #[]
  instanceTypes := #[]
  staticTypes := #[]
  resolved := Array.replicate 131 none
  statics := none }

def pool5 : Array CpInfo := pool [(1, .class_ 2), (0, u "java/lang/constant/Constable"), (0, .class_ 4), (0, u "java/lang/Object")] 6

/-- java/lang/constant/Constable -/
def k5 : Class := { plain "java/lang/constant/Constable" (some 0) with
  accessFlags := 1537
  interfaces := #[]
  cf := some (fileOf pool5 1 #[] #[] 1537 3 #[] #[])
  fields := #[]
  methods := #[]
  instanceTypes := #[]
  staticTypes := #[]
  resolved := Array.replicate 11 none
  statics := none }

def pool6 : Array CpInfo := pool [(1, .class_ 2), (0, u "java/lang/constant/ConstantDesc"), (0, .class_ 4), (0, u "java/lang/Object")] 32

/-- java/lang/constant/ConstantDesc -/
def k6 : Class := { plain "java/lang/constant/ConstantDesc" (some 0) with
  accessFlags := 1537
  interfaces := #[]
  cf := some (fileOf pool6 1 #[] #[] 1537 3 #[] #[])
  fields := #[]
  methods := #[]
  instanceTypes := #[]
  staticTypes := #[]
  resolved := Array.replicate 37 none
  statics := none }

def pool7 : Array CpInfo := pool [(1, .methodref 2 3), (0, .class_ 4), (0, .nameAndType 5 6), (0, u "java/lang/Object"), (0, u "<init>"), (0, u "()V"), (0, .string 8), (0, u ""), (0, .fieldref 10 11), (0, .class_ 12), (0, .nameAndType 13 14), (0, u "java/lang/String"), (0, u "value"), (0, u "[B"), (0, .fieldref 10 16), (0, .nameAndType 17 18), (0, u "coder"), (0, u "B"), (2, u "hash"), (0, u "I"), (2, u "hashIsZero"), (0, u "Z"), (0, .methodref 10 28), (0, .nameAndType 5 29), (0, u "([CIILjava/lang/Void;)V"), (8, .fieldref 10 39), (0, .nameAndType 40 26), (0, u "COMPACT_STRINGS"), (1, .class_ 44), (1, u "java/lang/StringUTF16"), (0, u "compress"), (1, .methodref 42 48), (0, .nameAndType 49 50), (0, u "coderFromArrayLen"), (0, u "([BI)B"), (56, .class_ 109), (1, u "java/lang/StringLatin1"), (32, u "()Z"), (34, .methodref 42 178), (0, .nameAndType 45 179), (0, u "([CII)[B"), (154, u "()I"), (0, .methodref 10 336), (0, .nameAndType 17 337), (0, u "()B"), (154, .methodref 10 493), (0, .nameAndType 494 142), (0, u "isLatin1"), (10, .methodref 10 506), (0, .nameAndType 507 334), (0, u "length"), (5, u "checkFromToIndex"), (9, u "checkBoundsBeginEnd"), (0, u "(III)V"), (50, .class_ 576), (0, u "java/lang/CharSequence"), (22, u "CASE_INSENSITIVE_ORDER"), (0, u "Ljava/util/Comparator;"), (32, .methodref 10 634), (0, .nameAndType 635 636), (0, u "indexOf"), (0, u "(II)I"), (0, .methodref 107 638), (0, .nameAndType 635 639), (0, u "([BIII)I"), (0, .methodref 42 638), (124, u "(I)I"), (244, u "([C)V"), (42, .fieldref 1054 1055), (0, .class_ 1056), (0, .nameAndType 1057 1058), (0, u "jdk/internal/util/Preconditions"), (0, u "SIOOBE_FORMATTER"), (0, u "Ljava/util/function/BiFunction;"), (3, .methodref 1054 1063), (0, .nameAndType 513 1064), (0, u "(IIILjava/util/function/BiFunction;)I"), (36, u "serialPersistentFields"), (0, u "[Ljava/io/ObjectStreamField;"), (0, .class_ 1104), (0, u "java/lang/String$CaseInsensitiveComparator"), (1, .class_ 1107), (0, u "java/io/Serializable"), (0, .class_ 1109), (0, u "java/lang/Comparable"), (0, .class_ 1111), (0, u "java/lang/constant/Constable"), (0, .class_ 1113), (0, u "java/lang/constant/ConstantDesc"), (2, u "serialVersionUID"), (0, u "J"), (3, u "REPL"), (0, u "C"), (2, u "LATIN1"), (1, u "UTF16")] 323

def k7m0 : Method := { name := "<init>", desc := "()V", sig := { parameters := [], returnType := none }, accessFlags := 1, code := none }
def k7c1 : Code := { maxStack := 5, maxLocals := 2, code := jdk_42_method_3_code, exceptionTable := #[], attributes := #[] }
def k7m1 : Method := { name := "<init>", desc := "([C)V", sig := { parameters := [(.array .char)], returnType := none }, accessFlags := 1, code := some k7c1 }
def k7c2 : Code := { maxStack := 2, maxLocals := 1, code := jdk_42_method_54_code, exceptionTable := #[], attributes := #[] }
def k7m2 : Method := { name := "length", desc := "()I", sig := { parameters := [], returnType := some .int }, accessFlags := 1, code := some k7c2 }
def k7c3 : Code := { maxStack := 3, maxLocals := 2, code := jdk_42_method_79_code, exceptionTable := #[], attributes := #[] }
def k7m3 : Method := { name := "indexOf", desc := "(I)I", sig := { parameters := [.int], returnType := some .int }, accessFlags := 1, code := some k7c3 }
def k7c4 : Code := { maxStack := 4, maxLocals := 3, code := jdk_42_method_80_code, exceptionTable := #[], attributes := #[] }
def k7m4 : Method := { name := "indexOf", desc := "(II)I", sig := { parameters := [.int, .int], returnType := some .int }, accessFlags := 1, code := some k7c4 }
def k7c5 : Code := { maxStack := 4, maxLocals := 6, code := jdk_42_method_149_code, exceptionTable := #[], attributes := #[] }
def k7m5 : Method := { name := "<init>", desc := "([CIILjava/lang/Void;)V", sig := { parameters := [(.array .char), .int, .int, (.object "java/lang/Void")], returnType := none }, accessFlags := 2, code := some k7c5 }
def k7c6 : Code := { maxStack := 1, maxLocals := 1, code := jdk_42_method_152_code, exceptionTable := #[], attributes := #[] }
def k7m6 : Method := { name := "coder", desc := "()B", sig := { parameters := [], returnType := some .byte }, accessFlags := 0, code := some k7c6 }
def k7c7 : Code := { maxStack := 1, maxLocals := 1, code := jdk_42_method_154_code, exceptionTable := #[], attributes := #[] }
def k7m7 : Method := { name := "isLatin1", desc := "()Z", sig := { parameters := [], returnType := some .boolean }, accessFlags := 0, code := some k7c7 }
def k7c8 : Code := { maxStack := 4, maxLocals := 3, code := jdk_42_method_158_code, exceptionTable := #[], attributes := #[] }
def k7m8 : Method := { name := "checkBoundsBeginEnd", desc := "(III)V", sig := { parameters := [.int, .int, .int], returnType := none }, accessFlags := 8, code := some k7c8 }
/-- java/lang/String -/
def k7 : Class := { plain "java/lang/String" (some 0) with
  accessFlags := 49
  interfaces := #[2, 3, 4, 5, 6]
  cf := some (fileOf pool7 10 #[.nestMembers #[1103]] #[{ accessFlags := 1, nameIndex := 5, descriptorIndex := 6, attributes := #[] }, { accessFlags := 1, nameIndex := 5, descriptorIndex := 1010, attributes := #[] }, { accessFlags := 1, nameIndex := 507, descriptorIndex := 334, attributes := #[] }, { accessFlags := 1, nameIndex := 635, descriptorIndex := 765, attributes := #[] }, { accessFlags := 1, nameIndex := 635, descriptorIndex := 636, attributes := #[] }, { accessFlags := 2, nameIndex := 5, descriptorIndex := 29, attributes := #[] }, { accessFlags := 0, nameIndex := 17, descriptorIndex := 337, attributes := #[] }, { accessFlags := 0, nameIndex := 494, descriptorIndex := 142, attributes := #[] }, { accessFlags := 8, nameIndex := 523, descriptorIndex := 524, attributes := #[] }] 49 2 #[1106, 1108, 575, 1110, 1112] #[{ accessFlags := 18, nameIndex := 13, descriptorIndex := 14, attributes := #[] }, { accessFlags := 18, nameIndex := 17, descriptorIndex := 18, attributes := #[] }, { accessFlags := 2, nameIndex := 21, descriptorIndex := 22, attributes := #[] }, { accessFlags := 2, nameIndex := 25, descriptorIndex := 26, attributes := #[] }, { accessFlags := 26, nameIndex := 1116, descriptorIndex := 1117, attributes := #[] }, { accessFlags := 24, nameIndex := 40, descriptorIndex := 26, attributes := #[] }, { accessFlags := 26, nameIndex := 1101, descriptorIndex := 1102, attributes := #[] }, { accessFlags := 26, nameIndex := 1121, descriptorIndex := 1122, attributes := #[] }, { accessFlags := 25, nameIndex := 599, descriptorIndex := 600, attributes := #[] }, { accessFlags := 24, nameIndex := 1125, descriptorIndex := 18, attributes := #[] }, { accessFlags := 24, nameIndex := 1127, descriptorIndex := 18, attributes := #[] }])
  fields := #[{ name := "value", type := (.array .byte), accessFlags := 18, slot := 0, constantValue := 0 }, { name := "coder", type := .byte, accessFlags := 18, slot := 1, constantValue := 0 }, { name := "hash", type := .int, accessFlags := 2, slot := 2, constantValue := 0 }, { name := "hashIsZero", type := .boolean, accessFlags := 2, slot := 3, constantValue := 0 }, { name := "serialVersionUID", type := .long, accessFlags := 26, slot := 0, constantValue := 0 }, { name := "COMPACT_STRINGS", type := .boolean, accessFlags := 24, slot := 1, constantValue := 0 }, { name := "serialPersistentFields", type := (.array (.object "java/io/ObjectStreamField")), accessFlags := 26, slot := 2, constantValue := 0 }, { name := "REPL", type := .char, accessFlags := 26, slot := 3, constantValue := 0 }, { name := "CASE_INSENSITIVE_ORDER", type := (.object "java/util/Comparator"), accessFlags := 25, slot := 4, constantValue := 0 }, { name := "LATIN1", type := .byte, accessFlags := 24, slot := 5, constantValue := 0 }, { name := "UTF16", type := .byte, accessFlags := 24, slot := 6, constantValue := 0 }]
  methods := #[k7m0, k7m1, k7m2, k7m3, k7m4, k7m5, k7m6, k7m7, k7m8]
  instanceTypes := #[(.array .byte), .byte, .int, .boolean]
  staticTypes := #[.long, .boolean, (.array (.object "java/io/ObjectStreamField")), .char, (.object "java/util/Comparator"), .byte, .byte]
  resolved := Array.replicate 1451 none
  statics := some 0 }

def pool8 : Array CpInfo := pool [(2, .class_ 4), (1, u "java/lang/Object"), (0, u "<init>"), (0, u "()V"), (0, .methodref 8 9), (0, .class_ 10), (0, .nameAndType 11 12), (0, u "java/lang/String"), (0, u "indexOf"), (0, u "(I)I"), (8, .class_ 22), (0, u "com/example/austere_access/austereaccess/policy/Glob"), (2, u "isLiteral"), (0, u "(Ljava/lang/String;)Z")] 5

def k8m0 : Method := { name := "<init>", desc := "()V", sig := { parameters := [], returnType := none }, accessFlags := 2, code := none }
def k8c1 : Code := { maxStack := 2, maxLocals := 1, code := prog_39_method_2_code, exceptionTable := #[], attributes := #[] }
def k8m1 : Method := { name := "isLiteral", desc := "(Ljava/lang/String;)Z", sig := { parameters := [(.object "java/lang/String")], returnType := some .boolean }, accessFlags := 9, code := some k8c1 }
/-- com/example/austere_access/austereaccess/policy/Glob -/
def k8 : Class := { plain "com/example/austere_access/austereaccess/policy/Glob" (some 0) with
  accessFlags := 33
  interfaces := #[]
  cf := some (fileOf pool8 21 #[] #[{ accessFlags := 2, nameIndex := 5, descriptorIndex := 6, attributes := #[] }, { accessFlags := 9, nameIndex := 25, descriptorIndex := 26, attributes := #[] }] 33 2 #[] #[])
  fields := #[]
  methods := #[k8m0, k8m1]
  instanceTypes := #[]
  staticTypes := #[]
  resolved := Array.replicate 32 none
  statics := none }

def pool9 : Array CpInfo := pool [(4, .class_ 6), (1, u "java/lang/Object"), (0, u "<init>"), (0, u "()V"), (5, .class_ 16), (1, u "java/lang/StringLatin1"), (21, .methodref 39 40), (0, .class_ 41), (0, .nameAndType 42 43), (0, u "java/lang/Math"), (0, u "min"), (0, u "(II)I"), (44, .methodref 14 89), (0, .nameAndType 90 91), (0, u "canEncode"), (0, u "(I)Z"), (0, .methodref 39 93), (0, .nameAndType 94 43), (0, u "max"), (0, .methodref 14 96), (0, .nameAndType 97 98), (0, u "indexOfChar"), (0, u "([BIII)I"), (2, u "indexOf"), (19, u "$assertionsDisabled"), (0, u "Z"), (98, .class_ 223), (1, u "java/lang/StringLatin1$LinesSpliterator"), (166, .class_ 391), (0, u "java/lang/StringLatin1$CharsSpliterator")] 3

def k9m0 : Method := { name := "<init>", desc := "()V", sig := { parameters := [], returnType := none }, accessFlags := 0, code := none }
def k9c1 : Code := { maxStack := 2, maxLocals := 1, code := jdk_43_method_4_code, exceptionTable := #[], attributes := #[] }
def k9m1 : Method := { name := "canEncode", desc := "(I)Z", sig := { parameters := [.int], returnType := some .boolean }, accessFlags := 9, code := some k9c1 }
def k9c2 : Code := { maxStack := 4, maxLocals := 4, code := jdk_43_method_22_code, exceptionTable := #[], attributes := #[] }
def k9m2 : Method := { name := "indexOf", desc := "([BIII)I", sig := { parameters := [(.array .byte), .int, .int, .int], returnType := some .int }, accessFlags := 9, code := some k9c2 }
def k9c3 : Code := { maxStack := 2, maxLocals := 6, code := jdk_43_method_23_code, exceptionTable := #[], attributes := #[] }
def k9m3 : Method := { name := "indexOfChar", desc := "([BIII)I", sig := { parameters := [(.array .byte), .int, .int, .int], returnType := some .int }, accessFlags := 10, code := some k9c3 }
/-- java/lang/StringLatin1 -/
def k9 : Class := { plain "java/lang/StringLatin1" (some 0) with
  accessFlags := 48
  interfaces := #[]
  cf := some (fileOf pool9 14 #[.nestMembers #[390, 221]] #[{ accessFlags := 0, nameIndex := 7, descriptorIndex := 8, attributes := #[] }, { accessFlags := 9, nameIndex := 90, descriptorIndex := 91, attributes := #[] }, { accessFlags := 9, nameIndex := 101, descriptorIndex := 98, attributes := #[] }, { accessFlags := 10, nameIndex := 97, descriptorIndex := 98, attributes := #[] }] 48 4 #[] #[{ accessFlags := 4120, nameIndex := 121, descriptorIndex := 122, attributes := #[] }])
  fields := #[{ name := "$assertionsDisabled", type := .boolean, accessFlags := 4120, slot := 0, constantValue := 0 }]
  methods := #[k9m0, k9m1, k9m2, k9m3]
  instanceTypes := #[]
  staticTypes := #[.boolean]
  resolved := Array.replicate 395 none
  statics := none }

def pool10 : Array CpInfo := pool [(1, .class_ 2), (0, u "java/lang/Math"), (1, .class_ 6), (1, u "java/lang/Object"), (0, u "<init>"), (0, u "()V"), (89, .class_ 100), (1, u "java/lang/Math$RandomNumberGeneratorHolder"), (71, u "negativeZeroFloatBits"), (0, u "J"), (2, u "negativeZeroDoubleBits"), (21, u "max"), (2, u "min"), (43, u "$assertionsDisabled"), (0, u "Z"), (88, u "(II)I"), (2, u "twoToTheDoubleScaleDown"), (0, u "D"), (4, u "twoToTheDoubleScaleUp"), (9, u "E"), (3, u "PI"), (2, u "TAU"), (2, u "DEGREES_TO_RADIANS"), (0, u "RADIANS_TO_DEGREES")] 94

def k10m0 : Method := { name := "<init>", desc := "()V", sig := { parameters := [], returnType := none }, accessFlags := 2, code := none }
def k10c1 : Code := { maxStack := 2, maxLocals := 2, code := jdk_29_method_65_code, exceptionTable := #[], attributes := #[] }
def k10m1 : Method := { name := "max", desc := "(II)I", sig := { parameters := [.int, .int], returnType := some .int }, accessFlags := 9, code := some k10c1 }
def k10c2 : Code := { maxStack := 2, maxLocals := 2, code := jdk_29_method_69_code, exceptionTable := #[], attributes := #[] }
def k10m2 : Method := { name := "min", desc := "(II)I", sig := { parameters := [.int, .int], returnType := some .int }, accessFlags := 9, code := some k10c2 }
/-- java/lang/Math -/
def k10 : Class := { plain "java/lang/Math" (some 0) with
  accessFlags := 49
  interfaces := #[]
  cf := some (fileOf pool10 1 #[.nestMembers #[98]] #[{ accessFlags := 2, nameIndex := 7, descriptorIndex := 8, attributes := #[] }, { accessFlags := 9, nameIndex := 198, descriptorIndex := 335, attributes := #[] }, { accessFlags := 9, nameIndex := 201, descriptorIndex := 335, attributes := #[] }] 49 4 #[] #[{ accessFlags := 25, nameIndex := 354, descriptorIndex := 339, attributes := #[] }, { accessFlags := 25, nameIndex := 358, descriptorIndex := 339, attributes := #[] }, { accessFlags := 25, nameIndex := 361, descriptorIndex := 339, attributes := #[] }, { accessFlags := 26, nameIndex := 364, descriptorIndex := 339, attributes := #[] }, { accessFlags := 26, nameIndex := 365, descriptorIndex := 339, attributes := #[] }, { accessFlags := 26, nameIndex := 172, descriptorIndex := 173, attributes := #[] }, { accessFlags := 26, nameIndex := 176, descriptorIndex := 173, attributes := #[] }, { accessFlags := 8, nameIndex := 344, descriptorIndex := 339, attributes := #[] }, { accessFlags := 8, nameIndex := 338, descriptorIndex := 339, attributes := #[] }, { accessFlags := 4120, nameIndex := 245, descriptorIndex := 246, attributes := #[] }])
  fields := #[{ name := "E", type := .double, accessFlags := 25, slot := 0, constantValue := 0 }, { name := "PI", type := .double, accessFlags := 25, slot := 1, constantValue := 0 }, { name := "TAU", type := .double, accessFlags := 25, slot := 2, constantValue := 0 }, { name := "DEGREES_TO_RADIANS", type := .double, accessFlags := 26, slot := 3, constantValue := 0 }, { name := "RADIANS_TO_DEGREES", type := .double, accessFlags := 26, slot := 4, constantValue := 0 }, { name := "negativeZeroFloatBits", type := .long, accessFlags := 26, slot := 5, constantValue := 0 }, { name := "negativeZeroDoubleBits", type := .long, accessFlags := 26, slot := 6, constantValue := 0 }, { name := "twoToTheDoubleScaleUp", type := .double, accessFlags := 8, slot := 7, constantValue := 0 }, { name := "twoToTheDoubleScaleDown", type := .double, accessFlags := 8, slot := 8, constantValue := 0 }, { name := "$assertionsDisabled", type := .boolean, accessFlags := 4120, slot := 9, constantValue := 0 }]
  methods := #[k10m0, k10m1, k10m2]
  instanceTypes := #[]
  staticTypes := #[.double, .double, .double, .double, .double, .long, .long, .double, .double, .boolean]
  resolved := Array.replicate 460 none
  statics := none }

def pool11 : Array CpInfo := pool [(3, .class_ 4), (0, u "java/lang/String"), (1, .class_ 8), (1, u "java/lang/Object"), (0, u "<init>"), (0, u "()V"), (0, .methodref 12 13), (0, .class_ 14), (0, .nameAndType 15 16), (0, u "java/lang/StringUTF16"), (0, u "newBytesLength"), (0, u "(I)I"), (3, .integer 1073741823), (23, .fieldref 12 45), (0, .nameAndType 46 47), (0, u "$assertionsDisabled"), (0, u "Z"), (0, .methodref 12 49), (0, .nameAndType 50 51), (0, u "length"), (0, u "([B)I"), (7, .fieldref 12 60), (0, .nameAndType 61 62), (0, u "HI_BYTE_SHIFT"), (0, u "I"), (0, .fieldref 12 64), (0, .nameAndType 65 62), (0, u "LO_BYTE_SHIFT"), (5, .methodref 12 72), (0, .nameAndType 73 74), (0, u "getChar"), (0, u "([BI)C"), (21, .methodref 12 97), (0, .nameAndType 98 99), (0, u "checkBoundsBeginEnd"), (0, u "(II[B)V"), (7, .methodref 12 108), (0, .nameAndType 109 110), (0, u "newBytesFor"), (0, u "(I)[B"), (0, .methodref 12 112), (0, .nameAndType 113 114), (0, u "putChar"), (0, u "([BII)V"), (0, .methodref 12 116), (0, .nameAndType 117 118), (0, u "compress"), (0, u "([CI[BII)I"), (0, .methodref 12 120), (0, .nameAndType 121 122), (0, u "toBytes"), (0, u "([CII)[B"), (60, .methodref 184 185), (0, .class_ 186), (0, .nameAndType 187 188), (0, u "java/lang/Math"), (0, u "min"), (0, u "(II)I"), (35, .methodref 184 225), (0, .nameAndType 226 188), (0, u "max"), (0, .integer 65536), (0, .methodref 12 229), (0, .nameAndType 230 231), (0, u "indexOfChar"), (0, u "([BIII)I"), (9, .methodref 3 242), (0, .nameAndType 98 243), (0, u "(III)V"), (0, .methodref 12 245), (0, .nameAndType 246 231), (0, u "indexOfCharUnsafe"), (14, u "coderFromArrayLen"), (0, u "([BI)B"), (5, u "indexOf"), (100, .class_ 371), (1, u "java/lang/StringUTF16$LinesSpliterator"), (58, u "MAX_LENGTH"), (196, .class_ 628), (0, u "java/lang/StringUTF16$CodePointsSpliterator"), (0, .class_ 630), (0, u "java/lang/StringUTF16$CharsSpliterator")] 4

def k11m0 : Method := { name := "<init>", desc := "()V", sig := { parameters := [], returnType := none }, accessFlags := 0, code := none }
def k11c1 : Code := { maxStack := 1, maxLocals := 1, code := jdk_52_method_2_code, exceptionTable := #[], attributes := #[] }
def k11m1 : Method := { name := "newBytesFor", desc := "(I)[B", sig := { parameters := [.int], returnType := some (.array .byte) }, accessFlags := 9, code := some k11c1 }
def k11c2 : Code := { maxStack := 4, maxLocals := 1, code := jdk_52_method_3_code, exceptionTable := #[], attributes := #[] }
def k11m2 : Method := { name := "newBytesLength", desc := "(I)I", sig := { parameters := [.int], returnType := some .int }, accessFlags := 9, code := some k11c2 }
def k11c3 : Code := { maxStack := 4, maxLocals := 3, code := jdk_52_method_4_code, exceptionTable := #[], attributes := #[] }
def k11m3 : Method := { name := "putChar", desc := "([BII)V", sig := { parameters := [(.array .byte), .int, .int], returnType := none }, accessFlags := 8, code := some k11c3 }
def k11c4 : Code := { maxStack := 3, maxLocals := 2, code := jdk_52_method_5_code, exceptionTable := #[], attributes := #[] }
def k11m4 : Method := { name := "getChar", desc := "([BI)C", sig := { parameters := [(.array .byte), .int], returnType := some .char }, accessFlags := 8, code := some k11c4 }
def k11c5 : Code := { maxStack := 2, maxLocals := 1, code := jdk_52_method_6_code, exceptionTable := #[], attributes := #[] }
def k11m5 : Method := { name := "length", desc := "([B)I", sig := { parameters := [(.array .byte)], returnType := some .int }, accessFlags := 9, code := some k11c5 }
def k11c6 : Code := { maxStack := 4, maxLocals := 5, code := jdk_52_method_14_code, exceptionTable := #[], attributes := #[] }
def k11m6 : Method := { name := "toBytes", desc := "([CII)[B", sig := { parameters := [(.array .char), .int, .int], returnType := some (.array .byte) }, accessFlags := 9, code := some k11c6 }
def k11c7 : Code := { maxStack := 2, maxLocals := 2, code := jdk_52_method_15_code, exceptionTable := #[], attributes := #[] }
def k11m7 : Method := { name := "coderFromArrayLen", desc := "([BI)B", sig := { parameters := [(.array .byte), .int], returnType := some .byte }, accessFlags := 8, code := some k11c7 }
def k11c8 : Code := { maxStack := 5, maxLocals := 6, code := jdk_52_method_16_code, exceptionTable := #[], attributes := #[] }
def k11m8 : Method := { name := "compress", desc := "([CII)[B", sig := { parameters := [(.array .char), .int, .int], returnType := some (.array .byte) }, accessFlags := 9, code := some k11c8 }
def k11c9 : Code := { maxStack := 3, maxLocals := 7, code := jdk_52_method_21_code, exceptionTable := #[], attributes := #[] }
def k11m9 : Method := { name := "compress", desc := "([CI[BII)I", sig := { parameters := [(.array .char), .int, (.array .byte), .int, .int], returnType := some .int }, accessFlags := 9, code := some k11c9 }
def k11c10 : Code := { maxStack := 4, maxLocals := 4, code := jdk_52_method_40_code, exceptionTable := #[], attributes := #[] }
def k11m10 : Method := { name := "indexOf", desc := "([BIII)I", sig := { parameters := [(.array .byte), .int, .int, .int], returnType := some .int }, accessFlags := 9, code := some k11c10 }
def k11c11 : Code := { maxStack := 4, maxLocals := 4, code := jdk_52_method_47_code, exceptionTable := #[], attributes := #[] }
def k11m11 : Method := { name := "indexOfChar", desc := "([BIII)I", sig := { parameters := [(.array .byte), .int, .int, .int], returnType := some .int }, accessFlags := 10, code := some k11c11 }
def k11c12 : Code := { maxStack := 2, maxLocals := 5, code := jdk_52_method_48_code, exceptionTable := #[], attributes := #[] }
def k11m12 : Method := { name := "indexOfCharUnsafe", desc := "([BIII)I", sig := { parameters := [(.array .byte), .int, .int, .int], returnType := some .int }, accessFlags := 10, code := some k11c12 }
def k11c13 : Code := { maxStack := 3, maxLocals := 3, code := jdk_52_method_93_code, exceptionTable := #[], attributes := #[] }
def k11m13 : Method := { name := "checkBoundsBeginEnd", desc := "(II[B)V", sig := { parameters := [.int, .int, (.array .byte)], returnType := none }, accessFlags := 9, code := some k11c13 }
/-- java/lang/StringUTF16 -/
def k11 : Class := { plain "java/lang/StringUTF16" (some 0) with
  accessFlags := 48
  interfaces := #[]
  cf := some (fileOf pool11 12 #[.nestMembers #[627, 629, 369]] #[{ accessFlags := 0, nameIndex := 9, descriptorIndex := 10, attributes := #[] }, { accessFlags := 9, nameIndex := 109, descriptorIndex := 110, attributes := #[] }, { accessFlags := 9, nameIndex := 15, descriptorIndex := 16, attributes := #[] }, { accessFlags := 8, nameIndex := 113, descriptorIndex := 114, attributes := #[] }, { accessFlags := 8, nameIndex := 73, descriptorIndex := 74, attributes := #[] }, { accessFlags := 9, nameIndex := 50, descriptorIndex := 51, attributes := #[] }, { accessFlags := 9, nameIndex := 121, descriptorIndex := 122, attributes := #[] }, { accessFlags := 8, nameIndex := 261, descriptorIndex := 262, attributes := #[] }, { accessFlags := 9, nameIndex := 117, descriptorIndex := 122, attributes := #[] }, { accessFlags := 9, nameIndex := 117, descriptorIndex := 118, attributes := #[] }, { accessFlags := 9, nameIndex := 268, descriptorIndex := 231, attributes := #[] }, { accessFlags := 10, nameIndex := 230, descriptorIndex := 231, attributes := #[] }, { accessFlags := 10, nameIndex := 246, descriptorIndex := 231, attributes := #[] }, { accessFlags := 9, nameIndex := 98, descriptorIndex := 99, attributes := #[] }] 48 6 #[] #[{ accessFlags := 26, nameIndex := 61, descriptorIndex := 62, attributes := #[] }, { accessFlags := 26, nameIndex := 65, descriptorIndex := 62, attributes := #[] }, { accessFlags := 24, nameIndex := 430, descriptorIndex := 62, attributes := #[] }, { accessFlags := 4120, nameIndex := 46, descriptorIndex := 47, attributes := #[] }])
  fields := #[{ name := "HI_BYTE_SHIFT", type := .int, accessFlags := 26, slot := 0, constantValue := 0 }, { name := "LO_BYTE_SHIFT", type := .int, accessFlags := 26, slot := 1, constantValue := 0 }, { name := "MAX_LENGTH", type := .int, accessFlags := 24, slot := 2, constantValue := 0 }, { name := "$assertionsDisabled", type := .boolean, accessFlags := 4120, slot := 3, constantValue := 0 }]
  methods := #[k11m0, k11m1, k11m2, k11m3, k11m4, k11m5, k11m6, k11m7, k11m8, k11m9, k11m10, k11m11, k11m12, k11m13]
  instanceTypes := #[]
  staticTypes := #[.int, .int, .int, .boolean]
  resolved := Array.replicate 635 none
  statics := some 1 }

def pool12 : Array CpInfo := pool [(2, .class_ 4), (1, u "java/lang/Object"), (0, u "<init>"), (0, u "()V"), (17, .class_ 26), (1, u "jdk/internal/util/Preconditions"), (20, u "checkFromToIndex"), (7, .class_ 56), (0, u "jdk/internal/util/Preconditions$4"), (57, .class_ 115), (0, u "jdk/internal/util/Preconditions$1"), (7, u "SIOOBE_FORMATTER"), (0, u "Ljava/util/function/BiFunction;"), (0, .class_ 126), (0, u "jdk/internal/util/Preconditions$2"), (3, u "AIOOBE_FORMATTER"), (0, .class_ 132), (0, u "jdk/internal/util/Preconditions$3"), (3, u "IOOBE_FORMATTER"), (46, u "(IIILjava/util/function/BiFunction;)I")] 10

def k12m0 : Method := { name := "<init>", desc := "()V", sig := { parameters := [], returnType := none }, accessFlags := 1, code := none }
def k12c1 : Code := { maxStack := 4, maxLocals := 4, code := jdk_41_method_12_code, exceptionTable := #[], attributes := #[] }
def k12m1 : Method := { name := "checkFromToIndex", desc := "(IIILjava/util/function/BiFunction;)I", sig := { parameters := [.int, .int, .int, (.object "java/util/function/BiFunction")], returnType := some .int }, accessFlags := 9, code := some k12c1 }
/-- jdk/internal/util/Preconditions -/
def k12 : Class := { plain "jdk/internal/util/Preconditions" (some 0) with
  accessFlags := 33
  interfaces := #[]
  cf := some (fileOf pool12 24 #[.nestMembers #[55, 131, 125, 114]] #[{ accessFlags := 1, nameIndex := 5, descriptorIndex := 6, attributes := #[] }, { accessFlags := 9, nameIndex := 47, descriptorIndex := 183, attributes := #[] }] 33 2 #[] #[{ accessFlags := 25, nameIndex := 123, descriptorIndex := 124, attributes := #[] }, { accessFlags := 25, nameIndex := 130, descriptorIndex := 124, attributes := #[] }, { accessFlags := 25, nameIndex := 136, descriptorIndex := 124, attributes := #[] }])
  fields := #[{ name := "SIOOBE_FORMATTER", type := (.object "java/util/function/BiFunction"), accessFlags := 25, slot := 0, constantValue := 0 }, { name := "AIOOBE_FORMATTER", type := (.object "java/util/function/BiFunction"), accessFlags := 25, slot := 1, constantValue := 0 }, { name := "IOOBE_FORMATTER", type := (.object "java/util/function/BiFunction"), accessFlags := 25, slot := 2, constantValue := 0 }]
  methods := #[k12m0, k12m1]
  instanceTypes := #[]
  staticTypes := #[(.object "java/util/function/BiFunction"), (.object "java/util/function/BiFunction"), (.object "java/util/function/BiFunction")]
  resolved := Array.replicate 194 none
  statics := some 2 }

def pool13 : Array CpInfo := pool [(9, u "<init>"), (6, .class_ 18), (1, u "java/lang/Object"), (0, u "()V"), (1, .class_ 23), (1, u "jdk/internal/util/ArraysSupport"), (0, u "LOG2_ARRAY_LONG_INDEX_SCALE"), (0, u "I"), (2, u "U"), (0, u "Ljdk/internal/misc/Unsafe;"), (8, u "BIG_ENDIAN"), (0, u "Z"), (8, u "LOG2_BYTE_BIT_SIZE"), (4, u "LOG2_ARRAY_INT_INDEX_SCALE"), (54, u "JLA"), (0, u "Ljdk/internal/access/JavaLangAccess;"), (11, u "LOG2_ARRAY_BOOLEAN_INDEX_SCALE"), (9, u "LOG2_ARRAY_BYTE_INDEX_SCALE"), (5, u "LOG2_ARRAY_CHAR_INDEX_SCALE"), (5, u "LOG2_ARRAY_SHORT_INDEX_SCALE"), (18, u "LOG2_ARRAY_FLOAT_INDEX_SCALE"), (24, u "LOG2_ARRAY_DOUBLE_INDEX_SCALE"), (89, u "T_BOOLEAN"), (2, u "T_CHAR"), (1, u "T_FLOAT"), (1, u "T_DOUBLE"), (1, u "T_BYTE"), (1, u "T_SHORT"), (1, u "T_INT"), (1, u "T_LONG"), (1, u "SOFT_MAX_ARRAY_LENGTH")] 83

def k13m0 : Method := { name := "<init>", desc := "()V", sig := { parameters := [], returnType := none }, accessFlags := 2, code := none }
/-- jdk/internal/util/ArraysSupport -/
def k13 : Class := { plain "jdk/internal/util/ArraysSupport" (some 0) with
  accessFlags := 33
  interfaces := #[]
  cf := some (fileOf pool13 21 #[] #[{ accessFlags := 2, nameIndex := 9, descriptorIndex := 19, attributes := #[] }] 33 16 #[] #[{ accessFlags := 24, nameIndex := 28, descriptorIndex := 29, attributes := #[] }, { accessFlags := 26, nameIndex := 38, descriptorIndex := 39, attributes := #[] }, { accessFlags := 25, nameIndex := 121, descriptorIndex := 25, attributes := #[] }, { accessFlags := 25, nameIndex := 131, descriptorIndex := 25, attributes := #[] }, { accessFlags := 25, nameIndex := 137, descriptorIndex := 25, attributes := #[] }, { accessFlags := 25, nameIndex := 143, descriptorIndex := 25, attributes := #[] }, { accessFlags := 25, nameIndex := 53, descriptorIndex := 25, attributes := #[] }, { accessFlags := 25, nameIndex := 24, descriptorIndex := 25, attributes := #[] }, { accessFlags := 25, nameIndex := 162, descriptorIndex := 25, attributes := #[] }, { accessFlags := 25, nameIndex := 187, descriptorIndex := 25, attributes := #[] }, { accessFlags := 26, nameIndex := 48, descriptorIndex := 25, attributes := #[] }, { accessFlags := 25, nameIndex := 277, descriptorIndex := 25, attributes := #[] }, { accessFlags := 25, nameIndex := 280, descriptorIndex := 25, attributes := #[] }, { accessFlags := 25, nameIndex := 282, descriptorIndex := 25, attributes := #[] }, { accessFlags := 25, nameIndex := 284, descriptorIndex := 25, attributes := #[] }, { accessFlags := 25, nameIndex := 286, descriptorIndex := 25, attributes := #[] }, { accessFlags := 25, nameIndex := 288, descriptorIndex := 25, attributes := #[] }, { accessFlags := 25, nameIndex := 290, descriptorIndex := 25, attributes := #[] }, { accessFlags := 25, nameIndex := 292, descriptorIndex := 25, attributes := #[] }, { accessFlags := 26, nameIndex := 108, descriptorIndex := 109, attributes := #[] }, { accessFlags := 25, nameIndex := 294, descriptorIndex := 25, attributes := #[] }])
  fields := #[{ name := "U", type := (.object "jdk/internal/misc/Unsafe"), accessFlags := 24, slot := 0, constantValue := 0 }, { name := "BIG_ENDIAN", type := .boolean, accessFlags := 26, slot := 1, constantValue := 0 }, { name := "LOG2_ARRAY_BOOLEAN_INDEX_SCALE", type := .int, accessFlags := 25, slot := 2, constantValue := 0 }, { name := "LOG2_ARRAY_BYTE_INDEX_SCALE", type := .int, accessFlags := 25, slot := 3, constantValue := 0 }, { name := "LOG2_ARRAY_CHAR_INDEX_SCALE", type := .int, accessFlags := 25, slot := 4, constantValue := 0 }, { name := "LOG2_ARRAY_SHORT_INDEX_SCALE", type := .int, accessFlags := 25, slot := 5, constantValue := 0 }, { name := "LOG2_ARRAY_INT_INDEX_SCALE", type := .int, accessFlags := 25, slot := 6, constantValue := 0 }, { name := "LOG2_ARRAY_LONG_INDEX_SCALE", type := .int, accessFlags := 25, slot := 7, constantValue := 0 }, { name := "LOG2_ARRAY_FLOAT_INDEX_SCALE", type := .int, accessFlags := 25, slot := 8, constantValue := 0 }, { name := "LOG2_ARRAY_DOUBLE_INDEX_SCALE", type := .int, accessFlags := 25, slot := 9, constantValue := 0 }, { name := "LOG2_BYTE_BIT_SIZE", type := .int, accessFlags := 26, slot := 10, constantValue := 0 }, { name := "T_BOOLEAN", type := .int, accessFlags := 25, slot := 11, constantValue := 0 }, { name := "T_CHAR", type := .int, accessFlags := 25, slot := 12, constantValue := 0 }, { name := "T_FLOAT", type := .int, accessFlags := 25, slot := 13, constantValue := 0 }, { name := "T_DOUBLE", type := .int, accessFlags := 25, slot := 14, constantValue := 0 }, { name := "T_BYTE", type := .int, accessFlags := 25, slot := 15, constantValue := 0 }, { name := "T_SHORT", type := .int, accessFlags := 25, slot := 16, constantValue := 0 }, { name := "T_INT", type := .int, accessFlags := 25, slot := 17, constantValue := 0 }, { name := "T_LONG", type := .int, accessFlags := 25, slot := 18, constantValue := 0 }, { name := "JLA", type := (.object "jdk/internal/access/JavaLangAccess"), accessFlags := 26, slot := 19, constantValue := 0 }, { name := "SOFT_MAX_ARRAY_LENGTH", type := .int, accessFlags := 25, slot := 20, constantValue := 0 }]
  methods := #[k13m0]
  instanceTypes := #[]
  staticTypes := #[(.object "jdk/internal/misc/Unsafe"), .boolean, .int, .int, .int, .int, .int, .int, .int, .int, .int, .int, .int, .int, .int, .int, .int, .int, .int, (.object "jdk/internal/access/JavaLangAccess"), .int]
  resolved := Array.replicate 378 none
  statics := none }

def pool14 : Array CpInfo := pool [(1, u "java/lang/Cloneable"), (0, .class_ 1), (0, u "java/lang/Object"), (0, .class_ 3)] 3

/-- java/lang/Cloneable -/
def k14 : Class := { plain "java/lang/Cloneable" (some 0) with
  accessFlags := 1537
  interfaces := #[]
  cf := some (fileOf pool14 2 #[] #[] 1537 4 #[] #[])
  fields := #[]
  methods := #[]
  instanceTypes := #[]
  staticTypes := #[]
  resolved := Array.replicate 8 none
  statics := none }

/-- the primitive byte -/
def k15 : Class := { plain "byte" none with kind := .primitive 'B', accessFlags := 0x411 }
/-- [B -/
def k16 : Class := { plain "[B" (some 0) with kind := .array 15 .byte, interfaces := #[14, 2], accessFlags := 1041 }

/-- the primitive char -/
def k17 : Class := { plain "char" none with kind := .primitive 'C', accessFlags := 0x411 }
/-- [C -/
def k18 : Class := { plain "[C" (some 0) with kind := .array 17 .char, interfaces := #[14, 2], accessFlags := 1041 }

/-- the primitive int -/
def k19 : Class := { plain "int" none with kind := .primitive 'I', accessFlags := 0x411 }
/-- [I -/
def k20 : Class := { plain "[I" (some 0) with kind := .array 19 .int, interfaces := #[14, 2], accessFlags := 1041 }

def heap : Heap := #[{ cls := 7, slots := #[.long 0, .int 1, .null, .int 0, .null, .int 0, .int 0], vm := .statics 7 },
  { cls := 11, slots := #[.int 0, .int 8, .int 0, .int 1], vm := .statics 11 },
  { cls := 12, slots := #[.null, .null, .null], vm := .statics 12 }]
def classes : Array Class := #[k0, k1, k2, k3, k4, k5, k6, k7, k8, k9, k10, k11, k12, k13, k14, k15, k16, k17, k18, k19, k20]
def interned : List (Array UInt16 × Addr) := []
def slotsUsed : Nat := 14
def theMethod : MethodId := ⟨1, 3⟩
def args0 : Array Value := #[.int 2, .int 777, .int 2000, .int 5, .int 6]
def aboutOver (below : List Frame) : State where
  vm := { classes := classes, interned := interned.toArray }
  heap := heap
  slotsUsed := slotsUsed
  threads := #[{ frames := .invoking theMethod args0 :: below }]
def below0 : List Frame := [.native { method := ⟨0, 0⟩, args := #[] }]
def about1 : State := aboutOver below0
def p0 : Program := .bare "" "" ""
def e0 : Env := launch0.env 0 0 0
theorem w_frames : about1.frames = Frame.invoking theMethod args0 :: below0 := rfl
set_option maxRecDepth 65536 in
theorem w_args : argsFit about1.vm theMethod args0 = true := by decide +kernel
set_option maxRecDepth 65536 in
theorem w_heap : heapFits about1 = true := by decide +kernel
set_option maxRecDepth 65536 in
theorem w_runnable : about1.curStatus? = some .runnable := by decide +kernel
set_option maxRecDepth 65536 in
theorem w_alone : about1.alone = true := by decide +kernel
set_option maxRecDepth 65536 in
theorem w_named : about1.methodNamed? x = some theMethod := by decide +kernel
set_option maxRecDepth 65536 in
theorem w_hears : about1.hears theMethod below0 = true := by decide +kernel
set_option maxRecDepth 65536 in
theorem w_ripe : about1.ripe theMethod args0 below0 = true := by decide +kernel
theorem w_running : about1.status = .running := rfl
set_option maxRecDepth 65536 in
theorem w_room : about1.hasRoom e0.platform room_1 = true :=
  launch0.hasRoom_least _ room_1 (by decide +kernel) (by decide +kernel) (by decide +kernel) (by decide +kernel) (by decide +kernel) (by decide +kernel)
theorem allAtoms_all (ts : List Jvm.Cond) (a : Array Jvm.Value) (st : Jvm.State) : (allAtoms ts).before a st = ts.all (fun c => c.before a st) := by
  induction ts with
  | nil => rfl
  | cons c t ih =>
    show (Jvm.Cond.and c (allAtoms t)).before a st = _
    rw [Jvm.Cond.before_and, ih, List.all_cons]
def words1 : List Jvm.Cond := Jvm.Cond.code x code maxLocals ret :: tables_1
/-- a 'code' word, met by the world's own term for the bytes: nothing is compared byte by byte -/
theorem code_word {y : MethodName} {bytes : ByteArray} {mx : Nat} {rt : Option FieldType} {a : Array Value} {s : State} {m : MethodId} {meth : Method} {c : Code} (h1 : s.methodNamed? y = some m) (h2 : s.vm.method? m = some meth) (h3 : meth.code = some c) (h4 : c.code = bytes)
    (h5 : (c.maxLocals == mx && c.exceptionTable.isEmpty && decide (c.maxStack ≤ mostOperands) && decide (meth.sig.returnType = rt) && !meth.locks && decide (parseMethodDescriptor y.desc = some meth.sig)) = true) : (Jvm.Cond.code y bytes mx rt).before a s = true := by
  simp only [Bool.and_eq_true, beq_iff_eq, Bool.not_eq_true', decide_eq_true_eq] at h5
  obtain ⟨⟨⟨⟨⟨g1, g2⟩, g3⟩, g4⟩, g5⟩, g6⟩ := h5
  simp [Cond.before, Cond.holds, Cond.value, h1, h2, h3, h4, g1, g2, g3, g4, g5, g6]
def isCode : Jvm.Cond → Bool
  | .code _ _ _ _ => true
  | _ => false
theorem all_split {L : List Jvm.Cond} {P : Jvm.Cond → Bool} (h1 : L.all (fun c => isCode c || P c) = true) (h2 : ∀ c ∈ L.filter isCode, P c = true) : L.all P = true := by
  refine List.all_eq_true.mpr fun c hc => ?_
  have h := List.all_eq_true.mp h1 c hc
  rcases Bool.eq_false_or_eq_true (isCode c) with hi | hi
  · exact h2 c (List.mem_filter.mpr ⟨hc, hi⟩)
  · simpa [hi] using h
set_option maxRecDepth 65536 in
theorem w_c0 : (Jvm.Cond.code x code maxLocals ret).before args0 about1 = true := code_word (m := ⟨1, 3⟩) (meth := k1m3) (c := k1c3) (by decide +kernel) rfl rfl rfl (by decide +kernel)
set_option maxRecDepth 65536 in
theorem w_c1 : (Jvm.Cond.code ({ cls := "com/example/austere_access/austereaccess/policy/GlobIsLiteralPinLaw", name := "ch", desc := "(I)C" } : Jvm.MethodName) method_2_code (2 : Nat) (Option.some Jvm.ClassFile.FieldType.char)).before args0 about1 = true := code_word (m := ⟨1, 1⟩) (meth := k1m1) (c := k1c1) (by decide +kernel) rfl rfl rfl (by decide +kernel)
set_option maxRecDepth 65536 in
theorem w_c2 : (Jvm.Cond.code ({ cls := "java/lang/String", name := "<init>", desc := "([C)V" } : Jvm.MethodName) jdk_42_method_3_code (2 : Nat) (Option.none : Option Jvm.ClassFile.FieldType)).before args0 about1 = true := code_word (m := ⟨7, 1⟩) (meth := k7m1) (c := k7c1) (by decide +kernel) rfl rfl rfl (by decide +kernel)
set_option maxRecDepth 65536 in
theorem w_c3 : (Jvm.Cond.code ({ cls := "java/lang/String", name := "<init>", desc := "([CIILjava/lang/Void;)V" } : Jvm.MethodName) jdk_42_method_149_code (6 : Nat) (Option.none : Option Jvm.ClassFile.FieldType)).before args0 about1 = true := code_word (m := ⟨7, 5⟩) (meth := k7m5) (c := k7c5) (by decide +kernel) rfl rfl rfl (by decide +kernel)
set_option maxRecDepth 65536 in
theorem w_c4 : (Jvm.Cond.code ({ cls := "java/lang/Object", name := "<init>", desc := "()V" } : Jvm.MethodName) object_method_1_code (1 : Nat) (Option.none : Option Jvm.ClassFile.FieldType)).before args0 about1 = true := code_word (m := ⟨0, 0⟩) (meth := k0m0) (c := k0c0) (by decide +kernel) rfl rfl rfl (by decide +kernel)
set_option maxRecDepth 65536 in
theorem w_c5 : (Jvm.Cond.code ({ cls := "com/example/austere_access/austereaccess/policy/Glob", name := "isLiteral", desc := "(Ljava/lang/String;)Z" } : Jvm.MethodName) prog_39_method_2_code (1 : Nat) (Option.some Jvm.ClassFile.FieldType.boolean)).before args0 about1 = true := code_word (m := ⟨8, 1⟩) (meth := k8m1) (c := k8c1) (by decide +kernel) rfl rfl rfl (by decide +kernel)
set_option maxRecDepth 65536 in
theorem w_c6 : (Jvm.Cond.code ({ cls := "java/lang/String", name := "indexOf", desc := "(I)I" } : Jvm.MethodName) jdk_42_method_79_code (2 : Nat) (Option.some Jvm.ClassFile.FieldType.int)).before args0 about1 = true := code_word (m := ⟨7, 3⟩) (meth := k7m3) (c := k7c3) (by decide +kernel) rfl rfl rfl (by decide +kernel)
set_option maxRecDepth 65536 in
theorem w_c7 : (Jvm.Cond.code ({ cls := "java/lang/String", name := "indexOf", desc := "(II)I" } : Jvm.MethodName) jdk_42_method_80_code (3 : Nat) (Option.some Jvm.ClassFile.FieldType.int)).before args0 about1 = true := code_word (m := ⟨7, 4⟩) (meth := k7m4) (c := k7c4) (by decide +kernel) rfl rfl rfl (by decide +kernel)
set_option maxRecDepth 65536 in
theorem w_c8 : (Jvm.Cond.code ({ cls := "java/lang/String", name := "isLatin1", desc := "()Z" } : Jvm.MethodName) jdk_42_method_154_code (1 : Nat) (Option.some Jvm.ClassFile.FieldType.boolean)).before args0 about1 = true := code_word (m := ⟨7, 7⟩) (meth := k7m7) (c := k7c7) (by decide +kernel) rfl rfl rfl (by decide +kernel)
set_option maxRecDepth 65536 in
theorem w_c9 : (Jvm.Cond.code ({ cls := "java/lang/String", name := "length", desc := "()I" } : Jvm.MethodName) jdk_42_method_54_code (1 : Nat) (Option.some Jvm.ClassFile.FieldType.int)).before args0 about1 = true := code_word (m := ⟨7, 2⟩) (meth := k7m2) (c := k7c2) (by decide +kernel) rfl rfl rfl (by decide +kernel)
set_option maxRecDepth 65536 in
theorem w_c10 : (Jvm.Cond.code ({ cls := "java/lang/String", name := "coder", desc := "()B" } : Jvm.MethodName) jdk_42_method_152_code (1 : Nat) (Option.some Jvm.ClassFile.FieldType.byte)).before args0 about1 = true := code_word (m := ⟨7, 6⟩) (meth := k7m6) (c := k7c6) (by decide +kernel) rfl rfl rfl (by decide +kernel)
set_option maxRecDepth 65536 in
theorem w_c11 : (Jvm.Cond.code ({ cls := "java/lang/StringLatin1", name := "indexOf", desc := "([BIII)I" } : Jvm.MethodName) jdk_43_method_22_code (4 : Nat) (Option.some Jvm.ClassFile.FieldType.int)).before args0 about1 = true := code_word (m := ⟨9, 2⟩) (meth := k9m2) (c := k9c2) (by decide +kernel) rfl rfl rfl (by decide +kernel)
set_option maxRecDepth 65536 in
theorem w_c12 : (Jvm.Cond.code ({ cls := "java/lang/StringLatin1", name := "canEncode", desc := "(I)Z" } : Jvm.MethodName) jdk_43_method_4_code (1 : Nat) (Option.some Jvm.ClassFile.FieldType.boolean)).before args0 about1 = true := code_word (m := ⟨9, 1⟩) (meth := k9m1) (c := k9c1) (by decide +kernel) rfl rfl rfl (by decide +kernel)
set_option maxRecDepth 65536 in
theorem w_c13 : (Jvm.Cond.code ({ cls := "java/lang/Math", name := "max", desc := "(II)I" } : Jvm.MethodName) jdk_29_method_65_code (2 : Nat) (Option.some Jvm.ClassFile.FieldType.int)).before args0 about1 = true := code_word (m := ⟨10, 1⟩) (meth := k10m1) (c := k10c1) (by decide +kernel) rfl rfl rfl (by decide +kernel)
set_option maxRecDepth 65536 in
theorem w_c14 : (Jvm.Cond.code ({ cls := "java/lang/Math", name := "min", desc := "(II)I" } : Jvm.MethodName) jdk_29_method_69_code (2 : Nat) (Option.some Jvm.ClassFile.FieldType.int)).before args0 about1 = true := code_word (m := ⟨10, 2⟩) (meth := k10m2) (c := k10c2) (by decide +kernel) rfl rfl rfl (by decide +kernel)
set_option maxRecDepth 65536 in
theorem w_c15 : (Jvm.Cond.code ({ cls := "java/lang/StringUTF16", name := "compress", desc := "([CII)[B" } : Jvm.MethodName) jdk_52_method_16_code (6 : Nat) (Option.some (Jvm.ClassFile.FieldType.array Jvm.ClassFile.FieldType.byte))).before args0 about1 = true := code_word (m := ⟨11, 8⟩) (meth := k11m8) (c := k11c8) (by decide +kernel) rfl rfl rfl (by decide +kernel)
set_option maxRecDepth 65536 in
theorem w_c16 : (Jvm.Cond.code ({ cls := "java/lang/StringUTF16", name := "compress", desc := "([CI[BII)I" } : Jvm.MethodName) jdk_52_method_21_code (7 : Nat) (Option.some Jvm.ClassFile.FieldType.int)).before args0 about1 = true := code_word (m := ⟨11, 9⟩) (meth := k11m9) (c := k11c9) (by decide +kernel) rfl rfl rfl (by decide +kernel)
set_option maxRecDepth 65536 in
theorem w_c17 : (Jvm.Cond.code ({ cls := "java/lang/StringUTF16", name := "coderFromArrayLen", desc := "([BI)B" } : Jvm.MethodName) jdk_52_method_15_code (2 : Nat) (Option.some Jvm.ClassFile.FieldType.byte)).before args0 about1 = true := code_word (m := ⟨11, 7⟩) (meth := k11m7) (c := k11c7) (by decide +kernel) rfl rfl rfl (by decide +kernel)
set_option maxRecDepth 65536 in
theorem w_c18 : (Jvm.Cond.code ({ cls := "com/example/austere_access/austereaccess/policy/GlobIsLiteralPinLaw", name := "wild", desc := "(C)Z" } : Jvm.MethodName) method_3_code (1 : Nat) (Option.some Jvm.ClassFile.FieldType.boolean)).before args0 about1 = true := code_word (m := ⟨1, 2⟩) (meth := k1m2) (c := k1c2) (by decide +kernel) rfl rfl rfl (by decide +kernel)
set_option maxRecDepth 65536 in
theorem w_c19 : (Jvm.Cond.code ({ cls := "java/lang/StringLatin1", name := "indexOfChar", desc := "([BIII)I" } : Jvm.MethodName) jdk_43_method_23_code (6 : Nat) (Option.some Jvm.ClassFile.FieldType.int)).before args0 about1 = true := code_word (m := ⟨9, 3⟩) (meth := k9m3) (c := k9c3) (by decide +kernel) rfl rfl rfl (by decide +kernel)
set_option maxRecDepth 65536 in
theorem w_c20 : (Jvm.Cond.code ({ cls := "java/lang/StringUTF16", name := "toBytes", desc := "([CII)[B" } : Jvm.MethodName) jdk_52_method_14_code (5 : Nat) (Option.some (Jvm.ClassFile.FieldType.array Jvm.ClassFile.FieldType.byte))).before args0 about1 = true := code_word (m := ⟨11, 6⟩) (meth := k11m6) (c := k11c6) (by decide +kernel) rfl rfl rfl (by decide +kernel)
set_option maxRecDepth 65536 in
theorem w_c21 : (Jvm.Cond.code ({ cls := "java/lang/StringUTF16", name := "newBytesFor", desc := "(I)[B" } : Jvm.MethodName) jdk_52_method_2_code (1 : Nat) (Option.some (Jvm.ClassFile.FieldType.array Jvm.ClassFile.FieldType.byte))).before args0 about1 = true := code_word (m := ⟨11, 1⟩) (meth := k11m1) (c := k11c1) (by decide +kernel) rfl rfl rfl (by decide +kernel)
set_option maxRecDepth 65536 in
theorem w_c22 : (Jvm.Cond.code ({ cls := "java/lang/StringUTF16", name := "newBytesLength", desc := "(I)I" } : Jvm.MethodName) jdk_52_method_3_code (1 : Nat) (Option.some Jvm.ClassFile.FieldType.int)).before args0 about1 = true := code_word (m := ⟨11, 2⟩) (meth := k11m2) (c := k11c2) (by decide +kernel) rfl rfl rfl (by decide +kernel)
set_option maxRecDepth 65536 in
theorem w_c23 : (Jvm.Cond.code ({ cls := "java/lang/StringUTF16", name := "putChar", desc := "([BII)V" } : Jvm.MethodName) jdk_52_method_4_code (3 : Nat) (Option.none : Option Jvm.ClassFile.FieldType)).before args0 about1 = true := code_word (m := ⟨11, 3⟩) (meth := k11m3) (c := k11c3) (by decide +kernel) rfl rfl rfl (by decide +kernel)
set_option maxRecDepth 65536 in
theorem w_c24 : (Jvm.Cond.code ({ cls := "java/lang/StringUTF16", name := "getChar", desc := "([BI)C" } : Jvm.MethodName) jdk_52_method_5_code (2 : Nat) (Option.some Jvm.ClassFile.FieldType.char)).before args0 about1 = true := code_word (m := ⟨11, 4⟩) (meth := k11m4) (c := k11c4) (by decide +kernel) rfl rfl rfl (by decide +kernel)
set_option maxRecDepth 65536 in
theorem w_c25 : (Jvm.Cond.code ({ cls := "java/lang/StringUTF16", name := "indexOf", desc := "([BIII)I" } : Jvm.MethodName) jdk_52_method_40_code (4 : Nat) (Option.some Jvm.ClassFile.FieldType.int)).before args0 about1 = true := code_word (m := ⟨11, 10⟩) (meth := k11m10) (c := k11c10) (by decide +kernel) rfl rfl rfl (by decide +kernel)
set_option maxRecDepth 65536 in
theorem w_c26 : (Jvm.Cond.code ({ cls := "java/lang/StringUTF16", name := "indexOfChar", desc := "([BIII)I" } : Jvm.MethodName) jdk_52_method_47_code (4 : Nat) (Option.some Jvm.ClassFile.FieldType.int)).before args0 about1 = true := code_word (m := ⟨11, 11⟩) (meth := k11m11) (c := k11c11) (by decide +kernel) rfl rfl rfl (by decide +kernel)
set_option maxRecDepth 65536 in
theorem w_c27 : (Jvm.Cond.code ({ cls := "java/lang/StringUTF16", name := "checkBoundsBeginEnd", desc := "(II[B)V" } : Jvm.MethodName) jdk_52_method_93_code (3 : Nat) (Option.none : Option Jvm.ClassFile.FieldType)).before args0 about1 = true := code_word (m := ⟨11, 13⟩) (meth := k11m13) (c := k11c13) (by decide +kernel) rfl rfl rfl (by decide +kernel)
set_option maxRecDepth 65536 in
theorem w_c28 : (Jvm.Cond.code ({ cls := "java/lang/StringUTF16", name := "length", desc := "([B)I" } : Jvm.MethodName) jdk_52_method_6_code (1 : Nat) (Option.some Jvm.ClassFile.FieldType.int)).before args0 about1 = true := code_word (m := ⟨11, 5⟩) (meth := k11m5) (c := k11c5) (by decide +kernel) rfl rfl rfl (by decide +kernel)
set_option maxRecDepth 65536 in
theorem w_c29 : (Jvm.Cond.code ({ cls := "java/lang/String", name := "checkBoundsBeginEnd", desc := "(III)V" } : Jvm.MethodName) jdk_42_method_158_code (3 : Nat) (Option.none : Option Jvm.ClassFile.FieldType)).before args0 about1 = true := code_word (m := ⟨7, 8⟩) (meth := k7m8) (c := k7c8) (by decide +kernel) rfl rfl rfl (by decide +kernel)
set_option maxRecDepth 65536 in
theorem w_c30 : (Jvm.Cond.code ({ cls := "jdk/internal/util/Preconditions", name := "checkFromToIndex", desc := "(IIILjava/util/function/BiFunction;)I" } : Jvm.MethodName) jdk_41_method_12_code (4 : Nat) (Option.some Jvm.ClassFile.FieldType.int)).before args0 about1 = true := code_word (m := ⟨12, 1⟩) (meth := k12m1) (c := k12c1) (by decide +kernel) rfl rfl rfl (by decide +kernel)
set_option maxRecDepth 65536 in
theorem w_c31 : (Jvm.Cond.code ({ cls := "java/lang/StringUTF16", name := "indexOfCharUnsafe", desc := "([BIII)I" } : Jvm.MethodName) jdk_52_method_48_code (5 : Nat) (Option.some Jvm.ClassFile.FieldType.int)).before args0 about1 = true := code_word (m := ⟨11, 12⟩) (meth := k11m12) (c := k11c12) (by decide +kernel) rfl rfl rfl (by decide +kernel)
def codes1 : List Jvm.Cond := [Jvm.Cond.code x code maxLocals ret, Jvm.Cond.code ({ cls := "com/example/austere_access/austereaccess/policy/GlobIsLiteralPinLaw", name := "ch", desc := "(I)C" } : Jvm.MethodName) method_2_code (2 : Nat) (Option.some Jvm.ClassFile.FieldType.char), Jvm.Cond.code ({ cls := "java/lang/String", name := "<init>", desc := "([C)V" } : Jvm.MethodName) jdk_42_method_3_code (2 : Nat) (Option.none : Option Jvm.ClassFile.FieldType), Jvm.Cond.code ({ cls := "java/lang/String", name := "<init>", desc := "([CIILjava/lang/Void;)V" } : Jvm.MethodName) jdk_42_method_149_code (6 : Nat) (Option.none : Option Jvm.ClassFile.FieldType), Jvm.Cond.code ({ cls := "java/lang/Object", name := "<init>", desc := "()V" } : Jvm.MethodName) object_method_1_code (1 : Nat) (Option.none : Option Jvm.ClassFile.FieldType), Jvm.Cond.code ({ cls := "com/example/austere_access/austereaccess/policy/Glob", name := "isLiteral", desc := "(Ljava/lang/String;)Z" } : Jvm.MethodName) prog_39_method_2_code (1 : Nat) (Option.some Jvm.ClassFile.FieldType.boolean), Jvm.Cond.code ({ cls := "java/lang/String", name := "indexOf", desc := "(I)I" } : Jvm.MethodName) jdk_42_method_79_code (2 : Nat) (Option.some Jvm.ClassFile.FieldType.int), Jvm.Cond.code ({ cls := "java/lang/String", name := "indexOf", desc := "(II)I" } : Jvm.MethodName) jdk_42_method_80_code (3 : Nat) (Option.some Jvm.ClassFile.FieldType.int), Jvm.Cond.code ({ cls := "java/lang/String", name := "isLatin1", desc := "()Z" } : Jvm.MethodName) jdk_42_method_154_code (1 : Nat) (Option.some Jvm.ClassFile.FieldType.boolean), Jvm.Cond.code ({ cls := "java/lang/String", name := "length", desc := "()I" } : Jvm.MethodName) jdk_42_method_54_code (1 : Nat) (Option.some Jvm.ClassFile.FieldType.int), Jvm.Cond.code ({ cls := "java/lang/String", name := "coder", desc := "()B" } : Jvm.MethodName) jdk_42_method_152_code (1 : Nat) (Option.some Jvm.ClassFile.FieldType.byte), Jvm.Cond.code ({ cls := "java/lang/StringLatin1", name := "indexOf", desc := "([BIII)I" } : Jvm.MethodName) jdk_43_method_22_code (4 : Nat) (Option.some Jvm.ClassFile.FieldType.int), Jvm.Cond.code ({ cls := "java/lang/StringLatin1", name := "canEncode", desc := "(I)Z" } : Jvm.MethodName) jdk_43_method_4_code (1 : Nat) (Option.some Jvm.ClassFile.FieldType.boolean), Jvm.Cond.code ({ cls := "java/lang/Math", name := "max", desc := "(II)I" } : Jvm.MethodName) jdk_29_method_65_code (2 : Nat) (Option.some Jvm.ClassFile.FieldType.int), Jvm.Cond.code ({ cls := "java/lang/Math", name := "min", desc := "(II)I" } : Jvm.MethodName) jdk_29_method_69_code (2 : Nat) (Option.some Jvm.ClassFile.FieldType.int), Jvm.Cond.code ({ cls := "java/lang/StringUTF16", name := "compress", desc := "([CII)[B" } : Jvm.MethodName) jdk_52_method_16_code (6 : Nat) (Option.some (Jvm.ClassFile.FieldType.array Jvm.ClassFile.FieldType.byte)), Jvm.Cond.code ({ cls := "java/lang/StringUTF16", name := "compress", desc := "([CI[BII)I" } : Jvm.MethodName) jdk_52_method_21_code (7 : Nat) (Option.some Jvm.ClassFile.FieldType.int), Jvm.Cond.code ({ cls := "java/lang/StringUTF16", name := "coderFromArrayLen", desc := "([BI)B" } : Jvm.MethodName) jdk_52_method_15_code (2 : Nat) (Option.some Jvm.ClassFile.FieldType.byte), Jvm.Cond.code ({ cls := "com/example/austere_access/austereaccess/policy/GlobIsLiteralPinLaw", name := "wild", desc := "(C)Z" } : Jvm.MethodName) method_3_code (1 : Nat) (Option.some Jvm.ClassFile.FieldType.boolean), Jvm.Cond.code ({ cls := "java/lang/StringLatin1", name := "indexOfChar", desc := "([BIII)I" } : Jvm.MethodName) jdk_43_method_23_code (6 : Nat) (Option.some Jvm.ClassFile.FieldType.int), Jvm.Cond.code ({ cls := "java/lang/StringUTF16", name := "toBytes", desc := "([CII)[B" } : Jvm.MethodName) jdk_52_method_14_code (5 : Nat) (Option.some (Jvm.ClassFile.FieldType.array Jvm.ClassFile.FieldType.byte)), Jvm.Cond.code ({ cls := "java/lang/StringUTF16", name := "newBytesFor", desc := "(I)[B" } : Jvm.MethodName) jdk_52_method_2_code (1 : Nat) (Option.some (Jvm.ClassFile.FieldType.array Jvm.ClassFile.FieldType.byte)), Jvm.Cond.code ({ cls := "java/lang/StringUTF16", name := "newBytesLength", desc := "(I)I" } : Jvm.MethodName) jdk_52_method_3_code (1 : Nat) (Option.some Jvm.ClassFile.FieldType.int), Jvm.Cond.code ({ cls := "java/lang/StringUTF16", name := "putChar", desc := "([BII)V" } : Jvm.MethodName) jdk_52_method_4_code (3 : Nat) (Option.none : Option Jvm.ClassFile.FieldType), Jvm.Cond.code ({ cls := "java/lang/StringUTF16", name := "getChar", desc := "([BI)C" } : Jvm.MethodName) jdk_52_method_5_code (2 : Nat) (Option.some Jvm.ClassFile.FieldType.char), Jvm.Cond.code ({ cls := "java/lang/StringUTF16", name := "indexOf", desc := "([BIII)I" } : Jvm.MethodName) jdk_52_method_40_code (4 : Nat) (Option.some Jvm.ClassFile.FieldType.int), Jvm.Cond.code ({ cls := "java/lang/StringUTF16", name := "indexOfChar", desc := "([BIII)I" } : Jvm.MethodName) jdk_52_method_47_code (4 : Nat) (Option.some Jvm.ClassFile.FieldType.int), Jvm.Cond.code ({ cls := "java/lang/StringUTF16", name := "checkBoundsBeginEnd", desc := "(II[B)V" } : Jvm.MethodName) jdk_52_method_93_code (3 : Nat) (Option.none : Option Jvm.ClassFile.FieldType), Jvm.Cond.code ({ cls := "java/lang/StringUTF16", name := "length", desc := "([B)I" } : Jvm.MethodName) jdk_52_method_6_code (1 : Nat) (Option.some Jvm.ClassFile.FieldType.int), Jvm.Cond.code ({ cls := "java/lang/String", name := "checkBoundsBeginEnd", desc := "(III)V" } : Jvm.MethodName) jdk_42_method_158_code (3 : Nat) (Option.none : Option Jvm.ClassFile.FieldType), Jvm.Cond.code ({ cls := "jdk/internal/util/Preconditions", name := "checkFromToIndex", desc := "(IIILjava/util/function/BiFunction;)I" } : Jvm.MethodName) jdk_41_method_12_code (4 : Nat) (Option.some Jvm.ClassFile.FieldType.int), Jvm.Cond.code ({ cls := "java/lang/StringUTF16", name := "indexOfCharUnsafe", desc := "([BIII)I" } : Jvm.MethodName) jdk_52_method_48_code (5 : Nat) (Option.some Jvm.ClassFile.FieldType.int)]
set_option maxRecDepth 65536 in
theorem codes_eq : words1.filter isCode = codes1 := rfl
theorem w_codes : ∀ c ∈ words1.filter isCode, c.before args0 about1 = true := by
  rw [codes_eq]
  intro c hc
  simp only [codes1, List.mem_cons, List.not_mem_nil, or_false] at hc
  rcases hc with rfl | rfl | rfl | rfl | rfl | rfl | rfl | rfl | rfl | rfl | rfl | rfl | rfl | rfl | rfl | rfl | rfl | rfl | rfl | rfl | rfl | rfl | rfl | rfl | rfl | rfl | rfl | rfl | rfl | rfl | rfl | rfl
  · exact w_c0
  · exact w_c1
  · exact w_c2
  · exact w_c3
  · exact w_c4
  · exact w_c5
  · exact w_c6
  · exact w_c7
  · exact w_c8
  · exact w_c9
  · exact w_c10
  · exact w_c11
  · exact w_c12
  · exact w_c13
  · exact w_c14
  · exact w_c15
  · exact w_c16
  · exact w_c17
  · exact w_c18
  · exact w_c19
  · exact w_c20
  · exact w_c21
  · exact w_c22
  · exact w_c23
  · exact w_c24
  · exact w_c25
  · exact w_c26
  · exact w_c27
  · exact w_c28
  · exact w_c29
  · exact w_c30
  · exact w_c31
set_option maxRecDepth 65536 in
theorem w_t1 : (words1.take 24).all (fun c => isCode c || c.before args0 about1) = true := by decide +kernel
set_option maxRecDepth 65536 in
theorem w_t2 : ((words1.drop 24).take 24).all (fun c => isCode c || c.before args0 about1) = true := by decide +kernel
set_option maxRecDepth 65536 in
theorem w_t3 : (((words1.drop 24).drop 24).take 24).all (fun c => isCode c || c.before args0 about1) = true := by decide +kernel
set_option maxRecDepth 65536 in
theorem w_t4 : ((((words1.drop 24).drop 24).drop 24).take 24).all (fun c => isCode c || c.before args0 about1) = true := by decide +kernel
set_option maxRecDepth 65536 in
theorem w_t5 : (((((words1.drop 24).drop 24).drop 24).drop 24).take 24).all (fun c => isCode c || c.before args0 about1) = true := by decide +kernel
set_option maxRecDepth 65536 in
theorem w_t6 : (((((words1.drop 24).drop 24).drop 24).drop 24).drop 24).all (fun c => isCode c || c.before args0 about1) = true := by decide +kernel
theorem w_tables : (allAtoms (Jvm.Cond.code x code maxLocals ret :: tables_1)).before args0 about1 = true := by
  rw [allAtoms_all]
  show words1.all (fun c => c.before args0 about1) = true
  refine all_split ?_ w_codes
  rw [← List.take_append_drop 24 words1, List.all_append, w_t1, ← List.take_append_drop 24 (words1.drop 24), List.all_append, w_t2, ← List.take_append_drop 24 ((words1.drop 24).drop 24), List.all_append, w_t3, ← List.take_append_drop 24 (((words1.drop 24).drop 24).drop 24), List.all_append, w_t4, ← List.take_append_drop 24 ((((words1.drop 24).drop 24).drop 24).drop 24), List.all_append, w_t5, w_t6]
  rfl
set_option maxRecDepth 65536 in
theorem w_rest : rest_1_c.before args0 about1 = true := by decide +kernel
set_option maxRecDepth 65536 in
theorem w_case : (Jvm.Cond.and given_1 narrow_1).before args0 about1 = true := by decide +kernel
set_option maxRecDepth 65536 in
theorem w_consts : constsHeld consts_1 about1 := Jvm.Lit.constsHeldB_iff.mp (by decide +kernel)
theorem w_applies : (headSpec (Jvm.Cond.code x code maxLocals ret :: tables_1) room_1).applies x e0.platform about1 = true :=
  (Spec.applies_iff w_frames).mpr ⟨w_running, w_runnable, w_alone, w_named, w_hears, w_ripe, w_room, w_tables⟩
theorem atStart : AtStart classFile x code maxLocals ret World_1 tables_1 room_1 Calls_1 rest_1 Pre_1 launch0 p0 e0 about1 theMethod args0 below0 :=
  ⟨lists_1, trivial, launch0.admits_env _ _ _, launch0.least_env, fairChoices_fair.cas, fairChoices_fair.clock, w_frames, w_args, w_heap, w_applies, ⟨w_consts, trivial⟩, w_rest, w_case⟩
end start1
theorem witness_1 : WitnessClaimed_1 := ⟨start1.p0, start1.e0, start1.about1, start1.theMethod, start1.args0, start1.below0, start1.atStart⟩
end Jvm.Pilot.@@N@@
