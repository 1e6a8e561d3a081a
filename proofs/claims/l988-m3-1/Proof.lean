import JvmDerived
import JvmDerived.Pilot.@@N@@Statement
import JvmDerived.Pilot.@@N@@Code
set_option linter.unusedVariables false
set_option linter.unusedSimpArgs false
@@BLOCK:NumsL.lean.txt@@
namespace Jvm.Pilot.@@N@@
open Jvm Jvm.ClassFile Sem Op Lib Jvm.Free Jvm.Stand Jvm.LawKit Jvm.RoadKit Bundle Jvm.Pilot.@@N@@.Jvm.D
section OwnKit
variable {p : Program} {l : Launch} {e : Env} {R : Room} {s : State} {m : MethodId} {args : Array Value} {below : List Frame} {meth : Method} {c : Code} {Z : State} {B : ByteArray} {ml : Nat} {own nm : String} {rt : Option FieldType} {n0 z0 n1 z1 kc ns : Nat} {EN : Outcome → State → List Loc → Prop} {T : State} {h h' : Heap} {kk nn kk' nn' : Nat} {Q : Option Value → Heap → Prop} {pc pc' pq : Nat} {L L' : Array Slot} {S : List Value} {a0 : Array Value}
/-- what one body's walk keeps throughout -/
def OCx (p : Program) (s : State) (m : MethodId) (meth : Method) (c : Code) (Z : State) (B : ByteArray) (ml : Nat) (own nm : String) (rt : Option FieldType) : Prop :=
  p.tables.exec = Jvm.exec ∧ Z.Warmed39 s.vm ∧ c.code = B ∧ c.maxLocals = ml ∧ s.vm.findClass own = some m.cls ∧ meth.name = nm ∧ meth.sig.returnType = rt ∧ meth.locks = false
/-- where the walk stands: the state T, its heap h, what was made so far -/
def OW (p : Program) (l : Launch) (e : Env) (R : Room) (s : State) (m : MethodId) (args : Array Value) (below : List Frame) (meth : Method) (c : Code) (Z : State) (B : ByteArray) (ml : Nat) (own nm : String) (rt : Option FieldType) (n0 z0 : Nat) (T : State) (h : Heap) (kk nn : Nat) : Prop :=
  OCx p s m meth c Z B ml own nm rt ∧ n0 ≤ z0 ∧ z0 ≤ h.size ∧ T.heap = h ∧ ∃ locs, Stand p l e R s m args below meth c T locs kk nn ∧ Fr n0 locs
/-- what a body leaves: its own word, and that nothing old was written or lost -/
def OQ (Q : Option Value → Heap → Prop) (z0 n0 : Nat) (v : Option Value) (h : Heap) (L : List Loc) : Prop := Q v h ∧ z0 ≤ h.size ∧ Fr n0 L
/-- the run from here ends well -/
def OF (p : Program) (e : Env) (below : List Frame) (n0 z0 : Nat) (EN : Outcome → State → List Loc → Prop) (Q : Option Value → Heap → Prop) (T : State) (f : JFrame) : Prop :=
  ∃ s₂ o, Steps p.tables e below (T.setTop f) s₂ ∧ s₂.status = .running ∧ Ended s₂ below o ∧ ∃ v L, o = .returned v ∧ OQ Q z0 n0 v s₂.heap L ∧ EN o s₂ L
/-- the end as the narrow frame has it -/
def ENn (s : State) (kc ns : Nat) : Outcome → State → List Loc → Prop := fun o t L => FrameEnd s o t L kc ns
theorem OW.here (W : OW p l e R s m args below meth c Z B ml own nm rt n0 z0 T h kk nn) : At T m c below := by obtain ⟨-, -, -, -, _, X, -⟩ := W; exact X.here
theorem OW.hx (W : OW p l e R s m args below meth c Z B ml own nm rt n0 z0 T h kk nn) : p.tables.exec = Jvm.exec := W.1.1
theorem OW.hZ (W : OW p l e R s m args below meth c Z B ml own nm rt n0 z0 T h kk nn) : Z.Warmed39 s.vm := W.1.2.1
theorem OW.by (W : OW p l e R s m args below meth c Z B ml own nm rt n0 z0 T h kk nn) : c.code = B := W.1.2.2.1
theorem OW.hml (W : OW p l e R s m args below meth c Z B ml own nm rt n0 z0 T h kk nn) : c.maxLocals = ml := W.1.2.2.2.1
theorem OW.hown (W : OW p l e R s m args below meth c Z B ml own nm rt n0 z0 T h kk nn) : s.vm.findClass own = some m.cls := W.1.2.2.2.2.1
theorem OW.le (W : OW p l e R s m args below meth c Z B ml own nm rt n0 z0 T h kk nn) : n0 ≤ h.size := Nat.le_trans W.2.1 W.2.2.1
theorem OF.step {T' : State} {f f' : JFrame} (hs : ∀ t, Steps p.tables e below (T'.setTop f') t → Steps p.tables e below (T.setTop f) t) (q : OF p e below n1 z1 EN Q T' f') : OF p e below n1 z1 EN Q T f := by
  obtain ⟨s₂, o, h1, h2⟩ := q
  exact ⟨s₂, o, hs _ h1, h2⟩
theorem OF.cast {f f' : JFrame} (q : f = f') (h : OF p e below n1 z1 EN Q T f') : OF p e below n1 z1 EN Q T f := q ▸ h
theorem o_iloadN {i : Fin 4} {v : Int32} (W : OW p l e R s m args below meth c Z B ml own nm rt n0 z0 T h kk nn) (hd : decode B pc = .ok (.iload_n i, 1)) (hl : L[i.val]? = some (.val (.int v))) (hp : pc + 1 = pc')
    (k1 : OF p e below n1 z1 EN Q T (mkF m pc' L (.int v :: S))) : OF p e below n1 z1 EN Q T (mkF m pc L S) := by
  subst hp; exact OF.step (fun t q => XS.iloadN W.here W.hx rfl (hb W.by hd) hl q) k1
theorem o_iload {i : Nat} {v : Int32} (W : OW p l e R s m args below meth c Z B ml own nm rt n0 z0 T h kk nn) (hd : decode B pc = .ok (.iload i, 2)) (hl : L[i]? = some (.val (.int v))) (hp : pc + 2 = pc')
    (k1 : OF p e below n1 z1 EN Q T (mkF m pc' L (.int v :: S))) : OF p e below n1 z1 EN Q T (mkF m pc L S) := by
  subst hp; exact OF.step (fun t q => XS.iload W.here W.hx rfl (hb W.by hd) hl q) k1
theorem o_lloadN {i : Fin 4} {v : Int64} (W : OW p l e R s m args below meth c Z B ml own nm rt n0 z0 T h kk nn) (hd : decode B pc = .ok (.lload_n i, 1)) (hl : L[i.val]? = some (.val (.long v))) (hp : pc + 1 = pc')
    (k1 : OF p e below n1 z1 EN Q T (mkF m pc' L (.long v :: S))) : OF p e below n1 z1 EN Q T (mkF m pc L S) := by
  subst hp; exact OF.step (fun t q => XS.lloadN W.here W.hx rfl (hb W.by hd) hl q) k1
theorem o_lload {i : Nat} {v : Int64} (W : OW p l e R s m args below meth c Z B ml own nm rt n0 z0 T h kk nn) (hd : decode B pc = .ok (.lload i, 2)) (hl : L[i]? = some (.val (.long v))) (hp : pc + 2 = pc')
    (k1 : OF p e below n1 z1 EN Q T (mkF m pc' L (.long v :: S))) : OF p e below n1 z1 EN Q T (mkF m pc L S) := by
  subst hp; exact OF.step (fun t q => XS.lload W.here W.hx rfl (hb W.by hd) hl q) k1
theorem o_aloadN {i : Fin 4} {v : Value} (W : OW p l e R s m args below meth c Z B ml own nm rt n0 z0 T h kk nn) (hd : decode B pc = .ok (.aload_n i, 1)) (hl : L[i.val]? = some (.val v)) (hv : v.isRef = true) (hp : pc + 1 = pc')
    (k1 : OF p e below n1 z1 EN Q T (mkF m pc' L (v :: S))) : OF p e below n1 z1 EN Q T (mkF m pc L S) := by
  subst hp; exact OF.step (fun t q => XS.aloadN W.here W.hx rfl (hb W.by hd) hl hv q) k1
theorem o_aload {i : Nat} {v : Value} (W : OW p l e R s m args below meth c Z B ml own nm rt n0 z0 T h kk nn) (hd : decode B pc = .ok (.aload i, 2)) (hl : L[i]? = some (.val v)) (hv : v.isRef = true) (hp : pc + 2 = pc')
    (k1 : OF p e below n1 z1 EN Q T (mkF m pc' L (v :: S))) : OF p e below n1 z1 EN Q T (mkF m pc L S) := by
  subst hp; exact OF.step (fun t q => XS.aload W.here W.hx rfl (hb W.by hd) hl hv q) k1
theorem o_istoreN {i : Fin 4} {x : Int32} (W : OW p l e R s m args below meth c Z B ml own nm rt n0 z0 T h kk nn) (hd : decode B pc = .ok (.istore_n i, 1)) (hl : storeLocals L i.val (.int x) = some L') (hp : pc + 1 = pc')
    (k1 : OF p e below n1 z1 EN Q T (mkF m pc' L' S)) : OF p e below n1 z1 EN Q T (mkF m pc L (.int x :: S)) := by
  subst hp; exact OF.step (fun t q => XS.istoreN W.here W.hx rfl (hb W.by hd) rfl hl q) k1
theorem o_istoreNG {i : Fin 4} {x : Int32} {Lf : Int32 → Array Slot} (W : OW p l e R s m args below meth c Z B ml own nm rt n0 z0 T h kk nn) (hd : decode B pc = .ok (.istore_n i, 1)) (hl : storeLocals L i.val (.int x) = some (Lf x)) (hp : pc + 1 = pc')
    (k1 : ∀ v, v = x → OF p e below n1 z1 EN Q T (mkF m pc' (Lf v) S)) : OF p e below n1 z1 EN Q T (mkF m pc L (.int x :: S)) := o_istoreN W hd hl hp (k1 x rfl)
theorem o_istore {i : Nat} {x : Int32} (W : OW p l e R s m args below meth c Z B ml own nm rt n0 z0 T h kk nn) (hd : decode B pc = .ok (.istore i, 2)) (hl : storeLocals L i (.int x) = some L') (hp : pc + 2 = pc')
    (k1 : OF p e below n1 z1 EN Q T (mkF m pc' L' S)) : OF p e below n1 z1 EN Q T (mkF m pc L (.int x :: S)) := by
  subst hp; exact OF.step (fun t q => XS.istore W.here W.hx rfl (hb W.by hd) rfl hl q) k1
theorem o_istoreG {i : Nat} {x : Int32} {Lf : Int32 → Array Slot} (W : OW p l e R s m args below meth c Z B ml own nm rt n0 z0 T h kk nn) (hd : decode B pc = .ok (.istore i, 2)) (hl : storeLocals L i (.int x) = some (Lf x)) (hp : pc + 2 = pc')
    (k1 : ∀ v, v = x → OF p e below n1 z1 EN Q T (mkF m pc' (Lf v) S)) : OF p e below n1 z1 EN Q T (mkF m pc L (.int x :: S)) := o_istore W hd hl hp (k1 x rfl)
theorem o_lstoreN {i : Fin 4} {x : Int64} (W : OW p l e R s m args below meth c Z B ml own nm rt n0 z0 T h kk nn) (hd : decode B pc = .ok (.lstore_n i, 1)) (hl : storeLocals L i.val (.long x) = some L') (hp : pc + 1 = pc')
    (k1 : OF p e below n1 z1 EN Q T (mkF m pc' L' S)) : OF p e below n1 z1 EN Q T (mkF m pc L (.long x :: S)) := by
  subst hp; exact OF.step (fun t q => XS.lstoreN W.here W.hx rfl (hb W.by hd) rfl hl q) k1
theorem o_lstoreNG {i : Fin 4} {x : Int64} {Lf : Int64 → Array Slot} (W : OW p l e R s m args below meth c Z B ml own nm rt n0 z0 T h kk nn) (hd : decode B pc = .ok (.lstore_n i, 1)) (hl : storeLocals L i.val (.long x) = some (Lf x)) (hp : pc + 1 = pc')
    (k1 : ∀ v, v = x → OF p e below n1 z1 EN Q T (mkF m pc' (Lf v) S)) : OF p e below n1 z1 EN Q T (mkF m pc L (.long x :: S)) := o_lstoreN W hd hl hp (k1 x rfl)
theorem o_lstore {i : Nat} {x : Int64} (W : OW p l e R s m args below meth c Z B ml own nm rt n0 z0 T h kk nn) (hd : decode B pc = .ok (.lstore i, 2)) (hl : storeLocals L i (.long x) = some L') (hp : pc + 2 = pc')
    (k1 : OF p e below n1 z1 EN Q T (mkF m pc' L' S)) : OF p e below n1 z1 EN Q T (mkF m pc L (.long x :: S)) := by
  subst hp; exact OF.step (fun t q => XS.lstore W.here W.hx rfl (hb W.by hd) rfl hl q) k1
theorem o_lstoreG {i : Nat} {x : Int64} {Lf : Int64 → Array Slot} (W : OW p l e R s m args below meth c Z B ml own nm rt n0 z0 T h kk nn) (hd : decode B pc = .ok (.lstore i, 2)) (hl : storeLocals L i (.long x) = some (Lf x)) (hp : pc + 2 = pc')
    (k1 : ∀ v, v = x → OF p e below n1 z1 EN Q T (mkF m pc' (Lf v) S)) : OF p e below n1 z1 EN Q T (mkF m pc L (.long x :: S)) := o_lstore W hd hl hp (k1 x rfl)
theorem o_astoreN {i : Fin 4} {x : Value} (W : OW p l e R s m args below meth c Z B ml own nm rt n0 z0 T h kk nn) (hd : decode B pc = .ok (.astore_n i, 1)) (hv : x.isRef = true) (hl : storeLocals L i.val x = some L') (hp : pc + 1 = pc')
    (k1 : OF p e below n1 z1 EN Q T (mkF m pc' L' S)) : OF p e below n1 z1 EN Q T (mkF m pc L (x :: S)) := by
  subst hp; exact OF.step (fun t q => XS.astoreN W.here W.hx rfl (hb W.by hd) rfl hv hl q) k1
theorem o_astore {i : Nat} {x : Value} (W : OW p l e R s m args below meth c Z B ml own nm rt n0 z0 T h kk nn) (hd : decode B pc = .ok (.astore i, 2)) (hv : x.isRef = true) (hl : storeLocals L i x = some L') (hp : pc + 2 = pc')
    (k1 : OF p e below n1 z1 EN Q T (mkF m pc' L' S)) : OF p e below n1 z1 EN Q T (mkF m pc L (x :: S)) := by
  subst hp; exact OF.step (fun t q => XS.astore W.here W.hx rfl (hb W.by hd) rfl hv hl q) k1
theorem o_iconst {i : Int} {v : Int32} (W : OW p l e R s m args below meth c Z B ml own nm rt n0 z0 T h kk nn) (hd : decode B pc = .ok (.iconst i, 1)) (hv : Int32.ofInt i = v) (hp : pc + 1 = pc')
    (k1 : OF p e below n1 z1 EN Q T (mkF m pc' L (.int v :: S))) : OF p e below n1 z1 EN Q T (mkF m pc L S) := by
  subst hp hv; exact OF.step (fun t q => XS.iconst W.here W.hx rfl (hb W.by hd) q) k1
theorem o_bipush {i : Int} {v : Int32} (W : OW p l e R s m args below meth c Z B ml own nm rt n0 z0 T h kk nn) (hd : decode B pc = .ok (.bipush i, 2)) (hv : (Int8.ofInt i).toInt32 = v) (hp : pc + 2 = pc')
    (k1 : OF p e below n1 z1 EN Q T (mkF m pc' L (.int v :: S))) : OF p e below n1 z1 EN Q T (mkF m pc L S) := by
  subst hp hv; exact OF.step (fun t q => XS.bipush W.here W.hx rfl (hb W.by hd) q) k1
theorem o_sipush {i : Int} {v : Int32} (W : OW p l e R s m args below meth c Z B ml own nm rt n0 z0 T h kk nn) (hd : decode B pc = .ok (.sipush i, 3)) (hv : (Int16.ofInt i).toInt32 = v) (hp : pc + 3 = pc')
    (k1 : OF p e below n1 z1 EN Q T (mkF m pc' L (.int v :: S))) : OF p e below n1 z1 EN Q T (mkF m pc L S) := by
  subst hp hv; exact OF.step (fun t q => XS.sipush W.here W.hx rfl (hb W.by hd) q) k1
theorem o_lconst {i : Fin 2} {v : Int64} (W : OW p l e R s m args below meth c Z B ml own nm rt n0 z0 T h kk nn) (hd : decode B pc = .ok (.lconst i, 1)) (hv : Int64.ofNat i = v) (hp : pc + 1 = pc')
    (k1 : OF p e below n1 z1 EN Q T (mkF m pc' L (.long v :: S))) : OF p e below n1 z1 EN Q T (mkF m pc L S) := by
  subst hp hv; exact OF.step (fun t q => XS.lconst W.here W.hx rfl (hb W.by hd) q) k1
theorem o_ldc {i : Nat} {v : Int32} (W : OW p l e R s m args below meth c Z B ml own nm rt n0 z0 T h kk nn) (w : (Jvm.Cond.constant own i v).before a0 Z = true) (hd : decode B pc = .ok (.ldc i, 2)) (hp : pc + 2 = pc')
    (k1 : OF p e below n1 z1 EN Q T (mkF m pc' L (.int v :: S))) : OF p e below n1 z1 EN Q T (mkF m pc L S) := by
  subst hp; obtain ⟨_, X, _⟩ := W.2.2.2.2; exact OF.step (fun t q => X.ldcInt W.hx W.hown (mvT W.hZ w) (g := mkF m pc L S) rfl (hb W.by hd) t q) k1
theorem o_ldc_w {i : Nat} {v : Int32} (W : OW p l e R s m args below meth c Z B ml own nm rt n0 z0 T h kk nn) (w : (Jvm.Cond.constant own i v).before a0 Z = true) (hd : decode B pc = .ok (.ldc_w i, 3)) (hp : pc + 3 = pc')
    (k1 : OF p e below n1 z1 EN Q T (mkF m pc' L (.int v :: S))) : OF p e below n1 z1 EN Q T (mkF m pc L S) := by
  subst hp; obtain ⟨_, X, _⟩ := W.2.2.2.2; exact OF.step (fun t q => X.ldcwInt W.hx W.hown (mvT W.hZ w) (g := mkF m pc L S) rfl (hb W.by hd) t q) k1
theorem o_ldc2_w {i : Nat} {v : Int64} (W : OW p l e R s m args below meth c Z B ml own nm rt n0 z0 T h kk nn) (w : (Jvm.Cond.constantLong own i v).before a0 Z = true) (hd : decode B pc = .ok (.ldc2_w i, 3)) (hp : pc + 3 = pc')
    (k1 : OF p e below n1 z1 EN Q T (mkF m pc' L (.long v :: S))) : OF p e below n1 z1 EN Q T (mkF m pc L S) := by
  subst hp; obtain ⟨_, X, _⟩ := W.2.2.2.2; exact OF.step (fun t q => X.ldc2Long W.hx W.hown (mvT W.hZ w) (g := mkF m pc L S) rfl (hb W.by hd) t q) k1
theorem o_iadd {x y : Int32} (W : OW p l e R s m args below meth c Z B ml own nm rt n0 z0 T h kk nn) (hd : decode B pc = .ok (.iadd, 1)) (hp : pc + 1 = pc')
    (k1 : OF p e below n1 z1 EN Q T (mkF m pc' L (.int (x + y) :: S))) : OF p e below n1 z1 EN Q T (mkF m pc L (.int y :: .int x :: S)) := by
  subst hp; exact OF.step (fun t q => XS.iadd W.here W.hx rfl (hb W.by hd) rfl q) k1
theorem o_isub {x y : Int32} (W : OW p l e R s m args below meth c Z B ml own nm rt n0 z0 T h kk nn) (hd : decode B pc = .ok (.isub, 1)) (hp : pc + 1 = pc')
    (k1 : OF p e below n1 z1 EN Q T (mkF m pc' L (.int (x - y) :: S))) : OF p e below n1 z1 EN Q T (mkF m pc L (.int y :: .int x :: S)) := by
  subst hp; exact OF.step (fun t q => XS.isub W.here W.hx rfl (hb W.by hd) rfl q) k1
theorem o_imul {x y : Int32} (W : OW p l e R s m args below meth c Z B ml own nm rt n0 z0 T h kk nn) (hd : decode B pc = .ok (.imul, 1)) (hp : pc + 1 = pc')
    (k1 : OF p e below n1 z1 EN Q T (mkF m pc' L (.int (x * y) :: S))) : OF p e below n1 z1 EN Q T (mkF m pc L (.int y :: .int x :: S)) := by
  subst hp; exact OF.step (fun t q => XS.imul W.here W.hx rfl (hb W.by hd) rfl q) k1
theorem o_iand {x y : Int32} (W : OW p l e R s m args below meth c Z B ml own nm rt n0 z0 T h kk nn) (hd : decode B pc = .ok (.iand, 1)) (hp : pc + 1 = pc')
    (k1 : OF p e below n1 z1 EN Q T (mkF m pc' L (.int (x &&& y) :: S))) : OF p e below n1 z1 EN Q T (mkF m pc L (.int y :: .int x :: S)) := by
  subst hp; exact OF.step (fun t q => XS.iand W.here W.hx rfl (hb W.by hd) rfl q) k1
theorem o_ior {x y : Int32} (W : OW p l e R s m args below meth c Z B ml own nm rt n0 z0 T h kk nn) (hd : decode B pc = .ok (.ior, 1)) (hp : pc + 1 = pc')
    (k1 : OF p e below n1 z1 EN Q T (mkF m pc' L (.int (x ||| y) :: S))) : OF p e below n1 z1 EN Q T (mkF m pc L (.int y :: .int x :: S)) := by
  subst hp; exact OF.step (fun t q => XS.ior W.here W.hx rfl (hb W.by hd) rfl q) k1
theorem o_ixor {x y : Int32} (W : OW p l e R s m args below meth c Z B ml own nm rt n0 z0 T h kk nn) (hd : decode B pc = .ok (.ixor, 1)) (hp : pc + 1 = pc')
    (k1 : OF p e below n1 z1 EN Q T (mkF m pc' L (.int (x ^^^ y) :: S))) : OF p e below n1 z1 EN Q T (mkF m pc L (.int y :: .int x :: S)) := by
  subst hp; exact OF.step (fun t q => XS.ixor W.here W.hx rfl (hb W.by hd) rfl q) k1
theorem o_ishl {x y : Int32} (W : OW p l e R s m args below meth c Z B ml own nm rt n0 z0 T h kk nn) (hd : decode B pc = .ok (.ishl, 1)) (hp : pc + 1 = pc')
    (k1 : OF p e below n1 z1 EN Q T (mkF m pc' L (.int (x <<< (y &&& 31)) :: S))) : OF p e below n1 z1 EN Q T (mkF m pc L (.int y :: .int x :: S)) := by
  subst hp; exact OF.step (fun t q => XS.ishl W.here W.hx rfl (hb W.by hd) rfl q) k1
theorem o_ishr {x y : Int32} (W : OW p l e R s m args below meth c Z B ml own nm rt n0 z0 T h kk nn) (hd : decode B pc = .ok (.ishr, 1)) (hp : pc + 1 = pc')
    (k1 : OF p e below n1 z1 EN Q T (mkF m pc' L (.int (x >>> (y &&& 31)) :: S))) : OF p e below n1 z1 EN Q T (mkF m pc L (.int y :: .int x :: S)) := by
  subst hp; exact OF.step (fun t q => XS.ishr W.here W.hx rfl (hb W.by hd) rfl q) k1
theorem o_iushr {x y : Int32} (W : OW p l e R s m args below meth c Z B ml own nm rt n0 z0 T h kk nn) (hd : decode B pc = .ok (.iushr, 1)) (hp : pc + 1 = pc')
    (k1 : OF p e below n1 z1 EN Q T (mkF m pc' L (.int ((x.toUInt32 >>> (y &&& 31).toUInt32).toInt32) :: S))) : OF p e below n1 z1 EN Q T (mkF m pc L (.int y :: .int x :: S)) := by
  subst hp; exact OF.step (fun t q => XS.iushr W.here W.hx rfl (hb W.by hd) rfl q) k1
theorem o_idiv {x y : Int32} (W : OW p l e R s m args below meth c Z B ml own nm rt n0 z0 T h kk nn) (hd : decode B pc = .ok (.idiv, 1)) (hy : y ≠ 0) (hp : pc + 1 = pc')
    (k1 : OF p e below n1 z1 EN Q T (mkF m pc' L (.int (x / y) :: S))) : OF p e below n1 z1 EN Q T (mkF m pc L (.int y :: .int x :: S)) := by
  subst hp; exact OF.step (fun t q => XS.idiv W.here W.hx rfl (hb W.by hd) rfl hy q) k1
theorem o_irem {x y : Int32} (W : OW p l e R s m args below meth c Z B ml own nm rt n0 z0 T h kk nn) (hd : decode B pc = .ok (.irem, 1)) (hy : y ≠ 0) (hp : pc + 1 = pc')
    (k1 : OF p e below n1 z1 EN Q T (mkF m pc' L (.int (x - (x / y) * y) :: S))) : OF p e below n1 z1 EN Q T (mkF m pc L (.int y :: .int x :: S)) := by
  subst hp; exact OF.step (fun t q => XS.irem W.here W.hx rfl (hb W.by hd) rfl hy q) k1
theorem o_ladd {x y : Int64} (W : OW p l e R s m args below meth c Z B ml own nm rt n0 z0 T h kk nn) (hd : decode B pc = .ok (.ladd, 1)) (hp : pc + 1 = pc')
    (k1 : OF p e below n1 z1 EN Q T (mkF m pc' L (.long (x + y) :: S))) : OF p e below n1 z1 EN Q T (mkF m pc L (.long y :: .long x :: S)) := by
  subst hp; exact OF.step (fun t q => XS.ladd W.here W.hx rfl (hb W.by hd) rfl q) k1
theorem o_lsub {x y : Int64} (W : OW p l e R s m args below meth c Z B ml own nm rt n0 z0 T h kk nn) (hd : decode B pc = .ok (.lsub, 1)) (hp : pc + 1 = pc')
    (k1 : OF p e below n1 z1 EN Q T (mkF m pc' L (.long (x - y) :: S))) : OF p e below n1 z1 EN Q T (mkF m pc L (.long y :: .long x :: S)) := by
  subst hp; exact OF.step (fun t q => XS.lsub W.here W.hx rfl (hb W.by hd) rfl q) k1
theorem o_lmul {x y : Int64} (W : OW p l e R s m args below meth c Z B ml own nm rt n0 z0 T h kk nn) (hd : decode B pc = .ok (.lmul, 1)) (hp : pc + 1 = pc')
    (k1 : OF p e below n1 z1 EN Q T (mkF m pc' L (.long (x * y) :: S))) : OF p e below n1 z1 EN Q T (mkF m pc L (.long y :: .long x :: S)) := by
  subst hp; exact OF.step (fun t q => XS.lmul W.here W.hx rfl (hb W.by hd) rfl q) k1
theorem o_land {x y : Int64} (W : OW p l e R s m args below meth c Z B ml own nm rt n0 z0 T h kk nn) (hd : decode B pc = .ok (.land, 1)) (hp : pc + 1 = pc')
    (k1 : OF p e below n1 z1 EN Q T (mkF m pc' L (.long (x &&& y) :: S))) : OF p e below n1 z1 EN Q T (mkF m pc L (.long y :: .long x :: S)) := by
  subst hp; exact OF.step (fun t q => XS.land W.here W.hx rfl (hb W.by hd) rfl q) k1
theorem o_lor {x y : Int64} (W : OW p l e R s m args below meth c Z B ml own nm rt n0 z0 T h kk nn) (hd : decode B pc = .ok (.lor, 1)) (hp : pc + 1 = pc')
    (k1 : OF p e below n1 z1 EN Q T (mkF m pc' L (.long (x ||| y) :: S))) : OF p e below n1 z1 EN Q T (mkF m pc L (.long y :: .long x :: S)) := by
  subst hp; exact OF.step (fun t q => XS.lor W.here W.hx rfl (hb W.by hd) rfl q) k1
theorem o_lxor {x y : Int64} (W : OW p l e R s m args below meth c Z B ml own nm rt n0 z0 T h kk nn) (hd : decode B pc = .ok (.lxor, 1)) (hp : pc + 1 = pc')
    (k1 : OF p e below n1 z1 EN Q T (mkF m pc' L (.long (x ^^^ y) :: S))) : OF p e below n1 z1 EN Q T (mkF m pc L (.long y :: .long x :: S)) := by
  subst hp; exact OF.step (fun t q => XS.lxor W.here W.hx rfl (hb W.by hd) rfl q) k1
theorem o_ldiv {x y : Int64} (W : OW p l e R s m args below meth c Z B ml own nm rt n0 z0 T h kk nn) (hd : decode B pc = .ok (.ldiv, 1)) (hy : y ≠ 0) (hp : pc + 1 = pc')
    (k1 : OF p e below n1 z1 EN Q T (mkF m pc' L (.long (x / y) :: S))) : OF p e below n1 z1 EN Q T (mkF m pc L (.long y :: .long x :: S)) := by
  subst hp; exact OF.step (fun t q => XS.ldiv W.here W.hx rfl (hb W.by hd) rfl hy q) k1
theorem o_lrem {x y : Int64} (W : OW p l e R s m args below meth c Z B ml own nm rt n0 z0 T h kk nn) (hd : decode B pc = .ok (.lrem, 1)) (hy : y ≠ 0) (hp : pc + 1 = pc')
    (k1 : OF p e below n1 z1 EN Q T (mkF m pc' L (.long (x - (x / y) * y) :: S))) : OF p e below n1 z1 EN Q T (mkF m pc L (.long y :: .long x :: S)) := by
  subst hp; exact OF.step (fun t q => XS.lrem W.here W.hx rfl (hb W.by hd) rfl hy q) k1
theorem o_lshl {x : Int64} {y : Int32} (W : OW p l e R s m args below meth c Z B ml own nm rt n0 z0 T h kk nn) (hd : decode B pc = .ok (.lshl, 1)) (hp : pc + 1 = pc')
    (k1 : OF p e below n1 z1 EN Q T (mkF m pc' L (.long (x <<< (y &&& 0x3f).toInt64) :: S))) : OF p e below n1 z1 EN Q T (mkF m pc L (.int y :: .long x :: S)) := by
  subst hp; exact OF.step (fun t q => XS.lshl W.here W.hx rfl (hb W.by hd) rfl q) k1
theorem o_lshr {x : Int64} {y : Int32} (W : OW p l e R s m args below meth c Z B ml own nm rt n0 z0 T h kk nn) (hd : decode B pc = .ok (.lshr, 1)) (hp : pc + 1 = pc')
    (k1 : OF p e below n1 z1 EN Q T (mkF m pc' L (.long (x >>> (y &&& 0x3f).toInt64) :: S))) : OF p e below n1 z1 EN Q T (mkF m pc L (.int y :: .long x :: S)) := by
  subst hp; exact OF.step (fun t q => XS.lshr W.here W.hx rfl (hb W.by hd) rfl q) k1
theorem o_lushr {x : Int64} {y : Int32} (W : OW p l e R s m args below meth c Z B ml own nm rt n0 z0 T h kk nn) (hd : decode B pc = .ok (.lushr, 1)) (hp : pc + 1 = pc')
    (k1 : OF p e below n1 z1 EN Q T (mkF m pc' L (.long ((x.toUInt64 >>> (y &&& 0x3f).toInt64.toUInt64).toInt64) :: S))) : OF p e below n1 z1 EN Q T (mkF m pc L (.int y :: .long x :: S)) := by
  subst hp; exact OF.step (fun t q => XS.lushr W.here W.hx rfl (hb W.by hd) rfl q) k1
theorem o_i2b {x : Int32} (W : OW p l e R s m args below meth c Z B ml own nm rt n0 z0 T h kk nn) (hd : decode B pc = .ok (.i2b, 1)) (hp : pc + 1 = pc')
    (k1 : OF p e below n1 z1 EN Q T (mkF m pc' L (.int (x.toInt8.toInt32) :: S))) : OF p e below n1 z1 EN Q T (mkF m pc L (.int x :: S)) := by
  subst hp; exact OF.step (fun t q => XS.i2b W.here W.hx rfl (hb W.by hd) rfl q) k1
theorem o_i2c {x : Int32} (W : OW p l e R s m args below meth c Z B ml own nm rt n0 z0 T h kk nn) (hd : decode B pc = .ok (.i2c, 1)) (hp : pc + 1 = pc')
    (k1 : OF p e below n1 z1 EN Q T (mkF m pc' L (.int (x.toUInt32.toUInt16.toUInt32.toInt32) :: S))) : OF p e below n1 z1 EN Q T (mkF m pc L (.int x :: S)) := by
  subst hp; exact OF.step (fun t q => XS.i2c W.here W.hx rfl (hb W.by hd) rfl q) k1
theorem o_i2s {x : Int32} (W : OW p l e R s m args below meth c Z B ml own nm rt n0 z0 T h kk nn) (hd : decode B pc = .ok (.i2s, 1)) (hp : pc + 1 = pc')
    (k1 : OF p e below n1 z1 EN Q T (mkF m pc' L (.int (x.toInt16.toInt32) :: S))) : OF p e below n1 z1 EN Q T (mkF m pc L (.int x :: S)) := by
  subst hp; exact OF.step (fun t q => XS.i2s W.here W.hx rfl (hb W.by hd) rfl q) k1
theorem o_i2l {x : Int32} (W : OW p l e R s m args below meth c Z B ml own nm rt n0 z0 T h kk nn) (hd : decode B pc = .ok (.i2l, 1)) (hp : pc + 1 = pc')
    (k1 : OF p e below n1 z1 EN Q T (mkF m pc' L (.long (x.toInt64) :: S))) : OF p e below n1 z1 EN Q T (mkF m pc L (.int x :: S)) := by
  subst hp; exact OF.step (fun t q => XS.i2l W.here W.hx rfl (hb W.by hd) rfl q) k1
theorem o_l2i {x : Int64} (W : OW p l e R s m args below meth c Z B ml own nm rt n0 z0 T h kk nn) (hd : decode B pc = .ok (.l2i, 1)) (hp : pc + 1 = pc')
    (k1 : OF p e below n1 z1 EN Q T (mkF m pc' L (.int (x.toInt32) :: S))) : OF p e below n1 z1 EN Q T (mkF m pc L (.long x :: S)) := by
  subst hp; exact OF.step (fun t q => XS.l2i W.here W.hx rfl (hb W.by hd) rfl q) k1
theorem o_dup {x : Value} (W : OW p l e R s m args below meth c Z B ml own nm rt n0 z0 T h kk nn) (hd : decode B pc = .ok (.dup, 1)) (hc : x.category = 1) (hp : pc + 1 = pc')
    (k1 : OF p e below n1 z1 EN Q T (mkF m pc' L (x :: x :: S))) : OF p e below n1 z1 EN Q T (mkF m pc L (x :: S)) := by
  subst hp; exact OF.step (fun t q => XS.dup W.here W.hx rfl (hb W.by hd) rfl hc q) k1
theorem o_pop {x : Value} (W : OW p l e R s m args below meth c Z B ml own nm rt n0 z0 T h kk nn) (hd : decode B pc = .ok (.pop, 1)) (hc : x.category = 1) (hp : pc + 1 = pc')
    (k1 : OF p e below n1 z1 EN Q T (mkF m pc' L S)) : OF p e below n1 z1 EN Q T (mkF m pc L (x :: S)) := by
  subst hp; exact OF.step (fun t q => XS.pop W.here W.hx rfl (hb W.by hd) rfl hc q) k1
theorem o_dup2 {x y : Value} (W : OW p l e R s m args below meth c Z B ml own nm rt n0 z0 T h kk nn) (hd : decode B pc = .ok (.dup2, 1)) (hc : x.category = 1) (hc' : y.category = 1) (hp : pc + 1 = pc')
    (k1 : OF p e below n1 z1 EN Q T (mkF m pc' L (x :: y :: x :: y :: S))) : OF p e below n1 z1 EN Q T (mkF m pc L (x :: y :: S)) := by
  subst hp; exact OF.step (fun t q => XT.dup2 W.here W.hx rfl (hb W.by hd) rfl hc hc' q) k1
theorem o_iinc {i : Nat} {z : Int} {x : Int32} (W : OW p l e R s m args below meth c Z B ml own nm rt n0 z0 T h kk nn) (hd : decode B pc = .ok (.iinc i z, 3)) (hl : L[i]? = some (.val (.int x))) (hl' : storeLocals L i (.int (x + Int32.ofInt z)) = some L') (hp : pc + 3 = pc')
    (k1 : OF p e below n1 z1 EN Q T (mkF m pc' L' S)) : OF p e below n1 z1 EN Q T (mkF m pc L S) := by
  subst hp; exact OF.step (fun t q => XS.iinc W.here W.hx rfl (hb W.by hd) hl hl' q) k1
theorem o_goto {o : Int} (W : OW p l e R s m args below meth c Z B ml own nm rt n0 z0 T h kk nn) (hd : decode B pc = .ok (.goto o, 3)) (ho : 0 ≤ (pc : Int) + o) (hq : ((pc : Int) + o).toNat = pq)
    (k1 : OF p e below n1 z1 EN Q T (mkF m pq L S)) : OF p e below n1 z1 EN Q T (mkF m pc L S) := OF.step (fun t q => XS.goto W.here W.hx rfl rfl (hb W.by hd) ho hq q) k1
theorem o_lt {x y : Int32} (q : x.toInt < y.toInt) : x < y := Int32.lt_iff_toInt_lt.mpr q
theorem o_nlt {x y : Int32} (q : y.toInt ≤ x.toInt) : ¬ x < y := fun z => by rw [Int32.lt_iff_toInt_lt] at z; omega
theorem o_eq {x y : Int32} (q : x.toInt = y.toInt) : x = y := Int32.toInt_inj.mp q
theorem o_ne {x y : Int32} (q : ¬ x.toInt = y.toInt) : ¬ x = y := fun z => q (congrArg Int32.toInt z)
theorem o_zero : (0 : Int32).toInt = 0 := rfl
theorem o_llt {x y : Int64} (q : x.toInt < y.toInt) : x < y := Int64.lt_iff_toInt_lt.mpr q
theorem o_nllt {x y : Int64} (q : y.toInt ≤ x.toInt) : ¬ x < y := fun z => by rw [Int64.lt_iff_toInt_lt] at z; omega
theorem o_leq {x y : Int64} (q : x.toInt = y.toInt) : x = y := Int64.toInt_inj.mp q
theorem o_lne {x y : Int64} (q : ¬ x.toInt = y.toInt) : ¬ x = y := fun z => q (congrArg Int64.toInt z)
theorem o_icmp_lt {x y : Int32} {o : Int} (W : OW p l e R s m args below meth c Z B ml own nm rt n0 z0 T h kk nn) (hd : decode B pc = .ok (.if_icmp .lt o, 3)) (ho : 0 ≤ (pc : Int) + o) (hq : ((pc : Int) + o).toNat = pq) (hp : pc + 3 = pc')
    (ky : x.toInt < y.toInt → OF p e below n1 z1 EN Q T (mkF m pq L S)) (kn : y.toInt ≤ x.toInt → OF p e below n1 z1 EN Q T (mkF m pc' L S)) : OF p e below n1 z1 EN Q T (mkF m pc L (.int y :: .int x :: S)) := by
  subst hp
  rcases Int.lt_or_le (x.toInt) (y.toInt) with q | q
  · exact OF.step (fun t z => XS.icmpYes W.here W.hx rfl rfl (hb W.by hd) rfl (tlt (o_lt q)).1 ho hq z) (ky q)
  · exact OF.step (fun t z => XS.icmpNo W.here W.hx rfl (hb W.by hd) rfl (flt (o_nlt q)).1 z) (kn q)
theorem o_icmp_ge {x y : Int32} {o : Int} (W : OW p l e R s m args below meth c Z B ml own nm rt n0 z0 T h kk nn) (hd : decode B pc = .ok (.if_icmp .ge o, 3)) (ho : 0 ≤ (pc : Int) + o) (hq : ((pc : Int) + o).toNat = pq) (hp : pc + 3 = pc')
    (ky : y.toInt ≤ x.toInt → OF p e below n1 z1 EN Q T (mkF m pq L S)) (kn : x.toInt < y.toInt → OF p e below n1 z1 EN Q T (mkF m pc' L S)) : OF p e below n1 z1 EN Q T (mkF m pc L (.int y :: .int x :: S)) := by
  subst hp
  rcases (Int.lt_or_le (x.toInt) (y.toInt)).symm with q | q
  · exact OF.step (fun t z => XS.icmpYes W.here W.hx rfl rfl (hb W.by hd) rfl (flt (o_nlt q)).2.1 ho hq z) (ky q)
  · exact OF.step (fun t z => XS.icmpNo W.here W.hx rfl (hb W.by hd) rfl (tlt (o_lt q)).2.1 z) (kn q)
theorem o_icmp_gt {x y : Int32} {o : Int} (W : OW p l e R s m args below meth c Z B ml own nm rt n0 z0 T h kk nn) (hd : decode B pc = .ok (.if_icmp .gt o, 3)) (ho : 0 ≤ (pc : Int) + o) (hq : ((pc : Int) + o).toNat = pq) (hp : pc + 3 = pc')
    (ky : y.toInt < x.toInt → OF p e below n1 z1 EN Q T (mkF m pq L S)) (kn : x.toInt ≤ y.toInt → OF p e below n1 z1 EN Q T (mkF m pc' L S)) : OF p e below n1 z1 EN Q T (mkF m pc L (.int y :: .int x :: S)) := by
  subst hp
  rcases Int.lt_or_le (y.toInt) (x.toInt) with q | q
  · exact OF.step (fun t z => XS.icmpYes W.here W.hx rfl rfl (hb W.by hd) rfl (tlt (o_lt q)).2.2.1 ho hq z) (ky q)
  · exact OF.step (fun t z => XS.icmpNo W.here W.hx rfl (hb W.by hd) rfl (flt (o_nlt q)).2.2.1 z) (kn q)
theorem o_icmp_le {x y : Int32} {o : Int} (W : OW p l e R s m args below meth c Z B ml own nm rt n0 z0 T h kk nn) (hd : decode B pc = .ok (.if_icmp .le o, 3)) (ho : 0 ≤ (pc : Int) + o) (hq : ((pc : Int) + o).toNat = pq) (hp : pc + 3 = pc')
    (ky : x.toInt ≤ y.toInt → OF p e below n1 z1 EN Q T (mkF m pq L S)) (kn : y.toInt < x.toInt → OF p e below n1 z1 EN Q T (mkF m pc' L S)) : OF p e below n1 z1 EN Q T (mkF m pc L (.int y :: .int x :: S)) := by
  subst hp
  rcases (Int.lt_or_le (y.toInt) (x.toInt)).symm with q | q
  · exact OF.step (fun t z => XS.icmpYes W.here W.hx rfl rfl (hb W.by hd) rfl (flt (o_nlt q)).2.2.2 ho hq z) (ky q)
  · exact OF.step (fun t z => XS.icmpNo W.here W.hx rfl (hb W.by hd) rfl (tlt (o_lt q)).2.2.2 z) (kn q)
theorem o_icmp_eq {x y : Int32} {o : Int} (W : OW p l e R s m args below meth c Z B ml own nm rt n0 z0 T h kk nn) (hd : decode B pc = .ok (.if_icmp .eq o, 3)) (ho : 0 ≤ (pc : Int) + o) (hq : ((pc : Int) + o).toNat = pq) (hp : pc + 3 = pc')
    (ky : x.toInt = y.toInt → OF p e below n1 z1 EN Q T (mkF m pq L S)) (kn : ¬ x.toInt = y.toInt → OF p e below n1 z1 EN Q T (mkF m pc' L S)) : OF p e below n1 z1 EN Q T (mkF m pc L (.int y :: .int x :: S)) := by
  subst hp
  rcases Decidable.em (x.toInt = y.toInt) with q | q
  · exact OF.step (fun t z => XS.icmpYes W.here W.hx rfl rfl (hb W.by hd) rfl (teq (o_eq q)).1 ho hq z) (ky q)
  · exact OF.step (fun t z => XS.icmpNo W.here W.hx rfl (hb W.by hd) rfl (feq (o_ne q)).1 z) (kn q)
theorem o_icmp_ne {x y : Int32} {o : Int} (W : OW p l e R s m args below meth c Z B ml own nm rt n0 z0 T h kk nn) (hd : decode B pc = .ok (.if_icmp .ne o, 3)) (ho : 0 ≤ (pc : Int) + o) (hq : ((pc : Int) + o).toNat = pq) (hp : pc + 3 = pc')
    (ky : ¬ x.toInt = y.toInt → OF p e below n1 z1 EN Q T (mkF m pq L S)) (kn : x.toInt = y.toInt → OF p e below n1 z1 EN Q T (mkF m pc' L S)) : OF p e below n1 z1 EN Q T (mkF m pc L (.int y :: .int x :: S)) := by
  subst hp
  rcases (Decidable.em (x.toInt = y.toInt)).symm with q | q
  · exact OF.step (fun t z => XS.icmpYes W.here W.hx rfl rfl (hb W.by hd) rfl (feq (o_ne q)).2 ho hq z) (ky q)
  · exact OF.step (fun t z => XS.icmpNo W.here W.hx rfl (hb W.by hd) rfl (teq (o_eq q)).2 z) (kn q)
theorem o_if_lt {x : Int32} {o : Int} (W : OW p l e R s m args below meth c Z B ml own nm rt n0 z0 T h kk nn) (hd : decode B pc = .ok (.ifCond .lt o, 3)) (ho : 0 ≤ (pc : Int) + o) (hq : ((pc : Int) + o).toNat = pq) (hp : pc + 3 = pc')
    (ky : x.toInt < 0 → OF p e below n1 z1 EN Q T (mkF m pq L S)) (kn : 0 ≤ x.toInt → OF p e below n1 z1 EN Q T (mkF m pc' L S)) : OF p e below n1 z1 EN Q T (mkF m pc L (.int x :: S)) := by
  subst hp
  rcases Int.lt_or_le (x.toInt) (0) with q | q
  · exact OF.step (fun t z => XS.ifYes W.here W.hx rfl rfl (hb W.by hd) rfl ((if0 _ _).trans (tlt (o_lt (x := x) (y := 0) q)).1) ho hq z) (ky q)
  · exact OF.step (fun t z => XS.ifNo W.here W.hx rfl (hb W.by hd) rfl ((if0 _ _).trans (flt (o_nlt (x := x) (y := 0) q)).1) z) (kn q)
theorem o_if_ge {x : Int32} {o : Int} (W : OW p l e R s m args below meth c Z B ml own nm rt n0 z0 T h kk nn) (hd : decode B pc = .ok (.ifCond .ge o, 3)) (ho : 0 ≤ (pc : Int) + o) (hq : ((pc : Int) + o).toNat = pq) (hp : pc + 3 = pc')
    (ky : 0 ≤ x.toInt → OF p e below n1 z1 EN Q T (mkF m pq L S)) (kn : x.toInt < 0 → OF p e below n1 z1 EN Q T (mkF m pc' L S)) : OF p e below n1 z1 EN Q T (mkF m pc L (.int x :: S)) := by
  subst hp
  rcases (Int.lt_or_le (x.toInt) (0)).symm with q | q
  · exact OF.step (fun t z => XS.ifYes W.here W.hx rfl rfl (hb W.by hd) rfl ((if0 _ _).trans (flt (o_nlt (x := x) (y := 0) q)).2.1) ho hq z) (ky q)
  · exact OF.step (fun t z => XS.ifNo W.here W.hx rfl (hb W.by hd) rfl ((if0 _ _).trans (tlt (o_lt (x := x) (y := 0) q)).2.1) z) (kn q)
theorem o_if_gt {x : Int32} {o : Int} (W : OW p l e R s m args below meth c Z B ml own nm rt n0 z0 T h kk nn) (hd : decode B pc = .ok (.ifCond .gt o, 3)) (ho : 0 ≤ (pc : Int) + o) (hq : ((pc : Int) + o).toNat = pq) (hp : pc + 3 = pc')
    (ky : 0 < x.toInt → OF p e below n1 z1 EN Q T (mkF m pq L S)) (kn : x.toInt ≤ 0 → OF p e below n1 z1 EN Q T (mkF m pc' L S)) : OF p e below n1 z1 EN Q T (mkF m pc L (.int x :: S)) := by
  subst hp
  rcases Int.lt_or_le (0) (x.toInt) with q | q
  · exact OF.step (fun t z => XS.ifYes W.here W.hx rfl rfl (hb W.by hd) rfl ((if0 _ _).trans (tlt (o_lt (x := 0) (y := x) q)).2.2.1) ho hq z) (ky q)
  · exact OF.step (fun t z => XS.ifNo W.here W.hx rfl (hb W.by hd) rfl ((if0 _ _).trans (flt (o_nlt (x := 0) (y := x) q)).2.2.1) z) (kn q)
theorem o_if_le {x : Int32} {o : Int} (W : OW p l e R s m args below meth c Z B ml own nm rt n0 z0 T h kk nn) (hd : decode B pc = .ok (.ifCond .le o, 3)) (ho : 0 ≤ (pc : Int) + o) (hq : ((pc : Int) + o).toNat = pq) (hp : pc + 3 = pc')
    (ky : x.toInt ≤ 0 → OF p e below n1 z1 EN Q T (mkF m pq L S)) (kn : 0 < x.toInt → OF p e below n1 z1 EN Q T (mkF m pc' L S)) : OF p e below n1 z1 EN Q T (mkF m pc L (.int x :: S)) := by
  subst hp
  rcases (Int.lt_or_le (0) (x.toInt)).symm with q | q
  · exact OF.step (fun t z => XS.ifYes W.here W.hx rfl rfl (hb W.by hd) rfl ((if0 _ _).trans (flt (o_nlt (x := 0) (y := x) q)).2.2.2) ho hq z) (ky q)
  · exact OF.step (fun t z => XS.ifNo W.here W.hx rfl (hb W.by hd) rfl ((if0 _ _).trans (tlt (o_lt (x := 0) (y := x) q)).2.2.2) z) (kn q)
theorem o_if_eq {x : Int32} {o : Int} (W : OW p l e R s m args below meth c Z B ml own nm rt n0 z0 T h kk nn) (hd : decode B pc = .ok (.ifCond .eq o, 3)) (ho : 0 ≤ (pc : Int) + o) (hq : ((pc : Int) + o).toNat = pq) (hp : pc + 3 = pc')
    (ky : x.toInt = 0 → OF p e below n1 z1 EN Q T (mkF m pq L S)) (kn : ¬ x.toInt = 0 → OF p e below n1 z1 EN Q T (mkF m pc' L S)) : OF p e below n1 z1 EN Q T (mkF m pc L (.int x :: S)) := by
  subst hp
  rcases Decidable.em (x.toInt = 0) with q | q
  · exact OF.step (fun t z => XS.ifYes W.here W.hx rfl rfl (hb W.by hd) rfl ((if0 _ _).trans (teq (o_eq (x := x) (y := 0) q)).1) ho hq z) (ky q)
  · exact OF.step (fun t z => XS.ifNo W.here W.hx rfl (hb W.by hd) rfl ((if0 _ _).trans (feq (o_ne (x := x) (y := 0) q)).1) z) (kn q)
theorem o_if_ne {x : Int32} {o : Int} (W : OW p l e R s m args below meth c Z B ml own nm rt n0 z0 T h kk nn) (hd : decode B pc = .ok (.ifCond .ne o, 3)) (ho : 0 ≤ (pc : Int) + o) (hq : ((pc : Int) + o).toNat = pq) (hp : pc + 3 = pc')
    (ky : ¬ x.toInt = 0 → OF p e below n1 z1 EN Q T (mkF m pq L S)) (kn : x.toInt = 0 → OF p e below n1 z1 EN Q T (mkF m pc' L S)) : OF p e below n1 z1 EN Q T (mkF m pc L (.int x :: S)) := by
  subst hp
  rcases (Decidable.em (x.toInt = 0)).symm with q | q
  · exact OF.step (fun t z => XS.ifYes W.here W.hx rfl rfl (hb W.by hd) rfl ((if0 _ _).trans (feq (o_ne (x := x) (y := 0) q)).2) ho hq z) (ky q)
  · exact OF.step (fun t z => XS.ifNo W.here W.hx rfl (hb W.by hd) rfl ((if0 _ _).trans (teq (o_eq (x := x) (y := 0) q)).2) z) (kn q)
theorem o_lcmp_lt {x y : Int64} {o : Int} {pc1 : Nat} (W : OW p l e R s m args below meth c Z B ml own nm rt n0 z0 T h kk nn) (hd : decode B pc = .ok (.lcmp, 1)) (h1 : pc + 1 = pc1) (hd2 : decode B pc1 = .ok (.ifCond .lt o, 3)) (ho : 0 ≤ (pc1 : Int) + o) (hq : ((pc1 : Int) + o).toNat = pq) (hp : pc1 + 3 = pc')
    (ky : x.toInt < y.toInt → OF p e below n1 z1 EN Q T (mkF m pq L S)) (kn : y.toInt ≤ x.toInt → OF p e below n1 z1 EN Q T (mkF m pc' L S)) : OF p e below n1 z1 EN Q T (mkF m pc L (.long y :: .long x :: S)) := by
  subst h1; subst hp
  refine OF.step (T' := T) (f' := mkF m (pc + 1) L (.int (lcmpW x y) :: S)) (fun t z => XS.lcmp W.here W.hx rfl (hb W.by hd) rfl z) ?_
  rcases Int.lt_or_le (x.toInt) (y.toInt) with q | q
  · exact OF.step (fun t z => XS.ifYes W.here W.hx rfl rfl (hb W.by hd2) rfl ((if0 _ _).trans (tlt ((lw_lt x y).mpr (o_llt q))).1) ho hq z) (ky q)
  · exact OF.step (fun t z => XS.ifNo W.here W.hx rfl (hb W.by hd2) rfl ((if0 _ _).trans (flt (fun z => o_nllt q ((lw_lt x y).mp z))).1) z) (kn q)
theorem o_lcmp_ge {x y : Int64} {o : Int} {pc1 : Nat} (W : OW p l e R s m args below meth c Z B ml own nm rt n0 z0 T h kk nn) (hd : decode B pc = .ok (.lcmp, 1)) (h1 : pc + 1 = pc1) (hd2 : decode B pc1 = .ok (.ifCond .ge o, 3)) (ho : 0 ≤ (pc1 : Int) + o) (hq : ((pc1 : Int) + o).toNat = pq) (hp : pc1 + 3 = pc')
    (ky : y.toInt ≤ x.toInt → OF p e below n1 z1 EN Q T (mkF m pq L S)) (kn : x.toInt < y.toInt → OF p e below n1 z1 EN Q T (mkF m pc' L S)) : OF p e below n1 z1 EN Q T (mkF m pc L (.long y :: .long x :: S)) := by
  subst h1; subst hp
  refine OF.step (T' := T) (f' := mkF m (pc + 1) L (.int (lcmpW x y) :: S)) (fun t z => XS.lcmp W.here W.hx rfl (hb W.by hd) rfl z) ?_
  rcases (Int.lt_or_le (x.toInt) (y.toInt)).symm with q | q
  · exact OF.step (fun t z => XS.ifYes W.here W.hx rfl rfl (hb W.by hd2) rfl ((if0 _ _).trans (flt (fun z => o_nllt q ((lw_lt x y).mp z))).2.1) ho hq z) (ky q)
  · exact OF.step (fun t z => XS.ifNo W.here W.hx rfl (hb W.by hd2) rfl ((if0 _ _).trans (tlt ((lw_lt x y).mpr (o_llt q))).2.1) z) (kn q)
theorem o_lcmp_gt {x y : Int64} {o : Int} {pc1 : Nat} (W : OW p l e R s m args below meth c Z B ml own nm rt n0 z0 T h kk nn) (hd : decode B pc = .ok (.lcmp, 1)) (h1 : pc + 1 = pc1) (hd2 : decode B pc1 = .ok (.ifCond .gt o, 3)) (ho : 0 ≤ (pc1 : Int) + o) (hq : ((pc1 : Int) + o).toNat = pq) (hp : pc1 + 3 = pc')
    (ky : y.toInt < x.toInt → OF p e below n1 z1 EN Q T (mkF m pq L S)) (kn : x.toInt ≤ y.toInt → OF p e below n1 z1 EN Q T (mkF m pc' L S)) : OF p e below n1 z1 EN Q T (mkF m pc L (.long y :: .long x :: S)) := by
  subst h1; subst hp
  refine OF.step (T' := T) (f' := mkF m (pc + 1) L (.int (lcmpW x y) :: S)) (fun t z => XS.lcmp W.here W.hx rfl (hb W.by hd) rfl z) ?_
  rcases Int.lt_or_le (y.toInt) (x.toInt) with q | q
  · exact OF.step (fun t z => XS.ifYes W.here W.hx rfl rfl (hb W.by hd2) rfl ((if0 _ _).trans (tlt ((lw_gt x y).mpr (o_llt q))).2.2.1) ho hq z) (ky q)
  · exact OF.step (fun t z => XS.ifNo W.here W.hx rfl (hb W.by hd2) rfl ((if0 _ _).trans (flt (fun z => o_nllt q ((lw_gt x y).mp z))).2.2.1) z) (kn q)
theorem o_lcmp_le {x y : Int64} {o : Int} {pc1 : Nat} (W : OW p l e R s m args below meth c Z B ml own nm rt n0 z0 T h kk nn) (hd : decode B pc = .ok (.lcmp, 1)) (h1 : pc + 1 = pc1) (hd2 : decode B pc1 = .ok (.ifCond .le o, 3)) (ho : 0 ≤ (pc1 : Int) + o) (hq : ((pc1 : Int) + o).toNat = pq) (hp : pc1 + 3 = pc')
    (ky : x.toInt ≤ y.toInt → OF p e below n1 z1 EN Q T (mkF m pq L S)) (kn : y.toInt < x.toInt → OF p e below n1 z1 EN Q T (mkF m pc' L S)) : OF p e below n1 z1 EN Q T (mkF m pc L (.long y :: .long x :: S)) := by
  subst h1; subst hp
  refine OF.step (T' := T) (f' := mkF m (pc + 1) L (.int (lcmpW x y) :: S)) (fun t z => XS.lcmp W.here W.hx rfl (hb W.by hd) rfl z) ?_
  rcases (Int.lt_or_le (y.toInt) (x.toInt)).symm with q | q
  · exact OF.step (fun t z => XS.ifYes W.here W.hx rfl rfl (hb W.by hd2) rfl ((if0 _ _).trans (flt (fun z => o_nllt q ((lw_gt x y).mp z))).2.2.2) ho hq z) (ky q)
  · exact OF.step (fun t z => XS.ifNo W.here W.hx rfl (hb W.by hd2) rfl ((if0 _ _).trans (tlt ((lw_gt x y).mpr (o_llt q))).2.2.2) z) (kn q)
theorem o_lcmp_eq {x y : Int64} {o : Int} {pc1 : Nat} (W : OW p l e R s m args below meth c Z B ml own nm rt n0 z0 T h kk nn) (hd : decode B pc = .ok (.lcmp, 1)) (h1 : pc + 1 = pc1) (hd2 : decode B pc1 = .ok (.ifCond .eq o, 3)) (ho : 0 ≤ (pc1 : Int) + o) (hq : ((pc1 : Int) + o).toNat = pq) (hp : pc1 + 3 = pc')
    (ky : x.toInt = y.toInt → OF p e below n1 z1 EN Q T (mkF m pq L S)) (kn : ¬ x.toInt = y.toInt → OF p e below n1 z1 EN Q T (mkF m pc' L S)) : OF p e below n1 z1 EN Q T (mkF m pc L (.long y :: .long x :: S)) := by
  subst h1; subst hp
  refine OF.step (T' := T) (f' := mkF m (pc + 1) L (.int (lcmpW x y) :: S)) (fun t z => XS.lcmp W.here W.hx rfl (hb W.by hd) rfl z) ?_
  rcases Decidable.em (x.toInt = y.toInt) with q | q
  · exact OF.step (fun t z => XS.ifYes W.here W.hx rfl rfl (hb W.by hd2) rfl ((if0 _ _).trans (teq ((lw_eq x y).mpr (o_leq q))).1) ho hq z) (ky q)
  · exact OF.step (fun t z => XS.ifNo W.here W.hx rfl (hb W.by hd2) rfl ((if0 _ _).trans (feq (fun z => o_lne q ((lw_eq x y).mp z))).1) z) (kn q)
theorem o_lcmp_ne {x y : Int64} {o : Int} {pc1 : Nat} (W : OW p l e R s m args below meth c Z B ml own nm rt n0 z0 T h kk nn) (hd : decode B pc = .ok (.lcmp, 1)) (h1 : pc + 1 = pc1) (hd2 : decode B pc1 = .ok (.ifCond .ne o, 3)) (ho : 0 ≤ (pc1 : Int) + o) (hq : ((pc1 : Int) + o).toNat = pq) (hp : pc1 + 3 = pc')
    (ky : ¬ x.toInt = y.toInt → OF p e below n1 z1 EN Q T (mkF m pq L S)) (kn : x.toInt = y.toInt → OF p e below n1 z1 EN Q T (mkF m pc' L S)) : OF p e below n1 z1 EN Q T (mkF m pc L (.long y :: .long x :: S)) := by
  subst h1; subst hp
  refine OF.step (T' := T) (f' := mkF m (pc + 1) L (.int (lcmpW x y) :: S)) (fun t z => XS.lcmp W.here W.hx rfl (hb W.by hd) rfl z) ?_
  rcases (Decidable.em (x.toInt = y.toInt)).symm with q | q
  · exact OF.step (fun t z => XS.ifYes W.here W.hx rfl rfl (hb W.by hd2) rfl ((if0 _ _).trans (feq (fun z => o_lne q ((lw_eq x y).mp z))).2) ho hq z) (ky q)
  · exact OF.step (fun t z => XS.ifNo W.here W.hx rfl (hb W.by hd2) rfl ((if0 _ _).trans (teq ((lw_eq x y).mpr (o_leq q))).2) z) (kn q)
abbrev QI (P : Int32 → Heap → Prop) : Option Value → Heap → Prop := fun v h => ∃ r, v = some (.int r) ∧ P r h
abbrev QJ (P : Int64 → Heap → Prop) : Option Value → Heap → Prop := fun v h => ∃ r, v = some (.long r) ∧ P r h
abbrev QA (P : Addr → Heap → Prop) : Option Value → Heap → Prop := fun v h => ∃ r, v = some (.ref r) ∧ P r h
abbrev QV (P : Heap → Prop) : Option Value → Heap → Prop := fun v h => v = none ∧ P h
theorem o_retN {t : FieldType} {z : Int32} (W : OW p l e R s m args below meth c Z B ml own nm rt n0 z0 T h kk nn) (hrt : rt = some t) (ht : t = .boolean ∨ t = .byte ∨ t = .char ∨ t = .short) (hd : decode B pc = .ok (.ireturn, 1)) (hk : kk ≤ kc) (hn : nn ≤ ns) (hQ : Q (some (.int (nar t z))) h) :
    OF p e below n0 z0 (ENn s kc ns) Q T (mkF m pc L (.int z :: S)) := by
  obtain ⟨⟨hx, hZ, hby, hml, hown, hnm, hr, hlk⟩, hz, hz', rfl, locs, X, N⟩ := W
  subst hrt
  obtain ⟨fs, hl, h1, h2, h3, h4⟩ := X.leave (v := some (.int (nar t z))) (fun q => by rw [hr] at q; cases q) hlk
  exact ⟨_, _, retN X hx hr ht (hb hby hd) hl, h1, h2, _, _, rfl, ⟨hQ, hz', N⟩, ⟨_, rfl⟩, h3, h4.mono hk hn⟩
theorem o_retI {z : Int32} (W : OW p l e R s m args below meth c Z B ml own nm rt n0 z0 T h kk nn) (hrt : rt = some .int) (hd : decode B pc = .ok (.ireturn, 1)) (hk : kk ≤ kc) (hn : nn ≤ ns) (hQ : Q (some (.int z)) h) :
    OF p e below n0 z0 (ENn s kc ns) Q T (mkF m pc L (.int z :: S)) := by
  obtain ⟨⟨hx, hZ, hby, hml, hown, hnm, hr, hlk⟩, hz, hz', rfl, locs, X, N⟩ := W
  subst hrt
  obtain ⟨fs, hl, h1, h2, h3, h4⟩ := X.leave (v := some (.int z)) (fun q => by rw [hr] at q; cases q) hlk
  exact ⟨_, _, retOut X hx hr rfl (Or.inl ⟨rfl, Or.inl rfl, _, rfl⟩) (hb hby hd) hl, h1, h2, _, _, rfl, ⟨hQ, hz', N⟩, ⟨_, rfl⟩, h3, h4.mono hk hn⟩
theorem o_retJ {z : Int64} (W : OW p l e R s m args below meth c Z B ml own nm rt n0 z0 T h kk nn) (hrt : rt = some .long) (hd : decode B pc = .ok (.lreturn, 1)) (hk : kk ≤ kc) (hn : nn ≤ ns) (hQ : Q (some (.long z)) h) :
    OF p e below n0 z0 (ENn s kc ns) Q T (mkF m pc L (.long z :: S)) := by
  obtain ⟨⟨hx, hZ, hby, hml, hown, hnm, hr, hlk⟩, hz, hz', rfl, locs, X, N⟩ := W
  subst hrt
  obtain ⟨fs, hl, h1, h2, h3, h4⟩ := X.leave (v := some (.long z)) (fun q => by rw [hr] at q; cases q) hlk
  exact ⟨_, _, retOut X hx hr rfl (Or.inr (Or.inl ⟨rfl, rfl, _, rfl⟩)) (hb hby hd) hl, h1, h2, _, _, rfl, ⟨hQ, hz', N⟩, ⟨_, rfl⟩, h3, h4.mono hk hn⟩
theorem o_retA {t : FieldType} {z : Value} (W : OW p l e R s m args below meth c Z B ml own nm rt n0 z0 T h kk nn) (hrt : rt = some t) (ht : t.isReference = true) (hv : z.isRef = true) (hnz : narrow t z = z) (hd : decode B pc = .ok (.areturn, 1)) (hk : kk ≤ kc) (hn : nn ≤ ns) (hQ : Q (some z) h) :
    OF p e below n0 z0 (ENn s kc ns) Q T (mkF m pc L (z :: S)) := by
  obtain ⟨⟨hx, hZ, hby, hml, hown, hnm, hr, hlk⟩, hz, hz', rfl, locs, X, N⟩ := W
  subst hrt
  obtain ⟨fs, hl, h1, h2, h3, h4⟩ := X.leave (v := some z) (fun q => by rw [hr] at q; cases q) hlk
  exact ⟨_, _, retOut X hx hr hnz (Or.inr (Or.inr (Or.inr (Or.inr ⟨rfl, ht, hv⟩)))) (hb hby hd) hl, h1, h2, _, _, rfl, ⟨hQ, hz', N⟩, ⟨_, rfl⟩, h3, h4.mono hk hn⟩
theorem o_retV (W : OW p l e R s m args below meth c Z B ml own nm rt n0 z0 T h kk nn) (hrt : rt = none) (hd : decode B pc = .ok (.return_, 1)) (hk : kk ≤ kc) (hn : nn ≤ ns) (hQ : Q none h) :
    OF p e below n0 z0 (ENn s kc ns) Q T (mkF m pc L []) := by
  obtain ⟨⟨hx, hZ, hby, hml, hown, hnm, hr, hlk⟩, hz, hz', rfl, locs, X, N⟩ := W
  subst hrt
  obtain ⟨fs, hl, h1, h2, h3, h4⟩ := X.leave (v := none) (fun _ => rfl) hlk
  exact ⟨_, _, X.returnOut hx hr (hb hby hd) hl, h1, h2, _, _, rfl, ⟨hQ, hz', N⟩, ⟨_, rfl⟩, h3, h4.mono hk hn⟩
/-- a body's contract: called with 'as' at the heap h0 it returns what Q says -/
def OCon (l : Launch) (Z : State) (y : MethodName) (B : ByteArray) (ml : Nat) (rt : Option FieldType) (ws : List Jvm.Cond) (rm : Room) (as : Array Value) (h0 : Heap) (n0 : Nat) (Q : Option Value → Heap → Prop) : Prop :=
  MetFree l y (head1 (Jvm.Cond.code y B ml rt :: ws) rm) (fun a U => a = as ∧ Z.Warmed39 U.vm ∧ U.heap = h0) (fun _ _ _ _ _ => True)
    (fun _ U o U' => ∃ v L, o = .returned v ∧ OQ Q h0.size n0 v U'.heap L ∧ FrameEnd U o U' L rm.cells rm.slots)
theorem OCon.mk {y : MethodName} {ws : List Jvm.Cond} {rm : Room} {as : Array Value} {h0 : Heap} (hpl : plainFor y = true) (hz : n0 ≤ h0.size)
    (body : ∀ (p : Program) (e : Env) (s : State) (m : MethodId) (below : List Frame) (meth : Method) (c : Code) (s₁ : State), OW p l e rm s m as below meth c Z B ml y.cls y.name rt n0 h0.size s₁ h0 0 0 → OF p e below n0 h0.size (ENn s rm.cells rm.slots) Q s₁ (entryFrame m as ml)) :
    OCon l Z y B ml rt ws rm as h0 n0 Q := by
  refine MetFree.of_bodySF hpl hisR ?_
  intro p e s m args below meth c s₁ Bd hml0 hP hK
  obtain ⟨rfl, hZ, hh⟩ := hP
  exact body p e s m below meth c s₁ ⟨⟨Bd.exec, hZ, Bd.bytes, hml0, findClass_of_methodNamed Bd.named, (name_of_methodNamed Bd.named Bd.method).1, Bd.returns, Bd.notSynchronized⟩, hz, Nat.le_refl _, by rw [← hh, Bd.state]; rfl, [], Stand.of_body Bd, Fr.nil _⟩
theorem o_callS {index : Nat} {y : MethodName} {B' : ByteArray} {ml' wt : Nat} {rt' : Option FieldType} {rm : Room} {as : Array Value} {Q' : Option Value → Heap → Prop} {argsL : List Value} {st : List Value} (W : OW p l e R s m args below meth c Z B ml own nm rt n0 z0 T h kk nn)
    (C : OCon l Z y B' ml' rt' [] rm as h n0 Q') (w1 : (Jvm.Cond.methodLink own index y).before a0 Z = true) (w2 : (Jvm.Cond.static y).before a0 Z = true) (w3 : (Jvm.Cond.initialized y.cls).before a0 Z = true) (w4 : (Jvm.Cond.code y B' ml' rt').before a0 Z = true)
    (hy : y.cls ≠ "java/lang/invoke/MethodHandle" ∧ y.cls ≠ "java/lang/invoke/VarHandle") (hlen : ∀ sig, parseMethodDescriptor y.desc = some sig → argsL.length = sig.parameters.length) (has : argsL.toArray = as) (hst : st = argsL.reverse ++ S) (hL : L.size = ml)
    (hwt : (S.map fun v => v.category).sum = wt) (hfr : rm.frames + 1 ≤ R.frames) (hlo : wt + (ml' + 11) + rm.locals ≤ R.locals) (hcl : kk + rm.cells ≤ R.cells) (hsl : nn + rm.slots ≤ R.slots) (hk' : kk + rm.cells = kk') (hn' : nn + rm.slots = nn')
    (hd : decode B pc = .ok (.invokestatic index, 3)) (hp : pc + 3 = pc')
    (k1 : ∀ v T' h', OW p l e R s m args below meth c Z B ml own nm rt n0 z0 T' h' kk' nn' → Q' v h' → h.size ≤ h'.size → OF p e below n1 z1 EN Q T' (mkF m pc' L (v.toList ++ S))) : OF p e below n1 z1 EN Q T (mkF m pc L st) := by
  subst hp has hk' hn' hst
  obtain ⟨cx, hz, hz', eT, locs, X, N⟩ := W
  obtain ⟨hx, hZ, hby, hml, hown, hnm, hr, hlk⟩ := cx
  obtain ⟨v, _, ⟨T', L2, k2, n2⟩, -, X2, ⟨Lc, hQ, l2, y2, z2⟩, st2⟩ := Jvm.LawKit.callS X hx (y := y) hown (mvT hZ w1) (mvT hZ w2) (mvT hZ w3) (mvT hZ w4) hy (backOf (W := wt) (Q := OQ Q' h.size n0) C hZ w4 w3 hfr hlo) (g := mkF m pc L (argsL.reverse ++ S)) rfl (hL.trans hml.symm) (argsL := argsL) (rest := S) hlen rfl
    (by show 2 * 0 + _ ≤ _; rw [hwt]; omega) (hb hby hd) (fun _ _ => ⟨rfl, eT, hcl, hsl⟩)
  dsimp only [Pt.U, Pt.locs, Pt.cells, Pt.slots] at X2 l2 y2 z2 st2 hQ
  subst l2 y2 z2
  obtain ⟨q1, q2, q3⟩ := hQ
  exact OF.step (fun t z => st2 t z) (k1 v T' T'.heap ⟨⟨hx, hZ, hby, hml, hown, hnm, hr, hlk⟩, hz, Nat.le_trans hz' q2, rfl, _, X2, Fr.app N q3⟩ q1 q2)
theorem o_callSI {index : Nat} {y : MethodName} {B' : ByteArray} {ml' wt : Nat} {rt' : Option FieldType} {rm : Room} {as : Array Value} {P' : Int32 → Heap → Prop} {argsL : List Value} {st : List Value} (W : OW p l e R s m args below meth c Z B ml own nm rt n0 z0 T h kk nn)
    (C : OCon l Z y B' ml' rt' [] rm as h n0 (QI P')) (w1 : (Jvm.Cond.methodLink own index y).before a0 Z = true) (w2 : (Jvm.Cond.static y).before a0 Z = true) (w3 : (Jvm.Cond.initialized y.cls).before a0 Z = true) (w4 : (Jvm.Cond.code y B' ml' rt').before a0 Z = true)
    (hy : y.cls ≠ "java/lang/invoke/MethodHandle" ∧ y.cls ≠ "java/lang/invoke/VarHandle") (hlen : ∀ sig, parseMethodDescriptor y.desc = some sig → argsL.length = sig.parameters.length) (has : argsL.toArray = as) (hst : st = argsL.reverse ++ S) (hL : L.size = ml)
    (hwt : (S.map fun v => v.category).sum = wt) (hfr : rm.frames + 1 ≤ R.frames) (hlo : wt + (ml' + 11) + rm.locals ≤ R.locals) (hcl : kk + rm.cells ≤ R.cells) (hsl : nn + rm.slots ≤ R.slots) (hk' : kk + rm.cells = kk') (hn' : nn + rm.slots = nn')
    (hd : decode B pc = .ok (.invokestatic index, 3)) (hp : pc + 3 = pc')
    (k1 : ∀ r T' h', OW p l e R s m args below meth c Z B ml own nm rt n0 z0 T' h' kk' nn' → P' r h' → h.size ≤ h'.size → OF p e below n1 z1 EN Q T' (mkF m pc' L (.int r :: S))) : OF p e below n1 z1 EN Q T (mkF m pc L st) :=
  o_callS W C w1 w2 w3 w4 hy hlen has hst hL hwt hfr hlo hcl hsl hk' hn' hd hp (fun v T' h' W' q z => by
    obtain ⟨r, rfl, q⟩ := q
    exact k1 r T' h' W' q z)
theorem o_callSJ {index : Nat} {y : MethodName} {B' : ByteArray} {ml' wt : Nat} {rt' : Option FieldType} {rm : Room} {as : Array Value} {P' : Int64 → Heap → Prop} {argsL : List Value} {st : List Value} (W : OW p l e R s m args below meth c Z B ml own nm rt n0 z0 T h kk nn)
    (C : OCon l Z y B' ml' rt' [] rm as h n0 (QJ P')) (w1 : (Jvm.Cond.methodLink own index y).before a0 Z = true) (w2 : (Jvm.Cond.static y).before a0 Z = true) (w3 : (Jvm.Cond.initialized y.cls).before a0 Z = true) (w4 : (Jvm.Cond.code y B' ml' rt').before a0 Z = true)
    (hy : y.cls ≠ "java/lang/invoke/MethodHandle" ∧ y.cls ≠ "java/lang/invoke/VarHandle") (hlen : ∀ sig, parseMethodDescriptor y.desc = some sig → argsL.length = sig.parameters.length) (has : argsL.toArray = as) (hst : st = argsL.reverse ++ S) (hL : L.size = ml)
    (hwt : (S.map fun v => v.category).sum = wt) (hfr : rm.frames + 1 ≤ R.frames) (hlo : wt + (ml' + 11) + rm.locals ≤ R.locals) (hcl : kk + rm.cells ≤ R.cells) (hsl : nn + rm.slots ≤ R.slots) (hk' : kk + rm.cells = kk') (hn' : nn + rm.slots = nn')
    (hd : decode B pc = .ok (.invokestatic index, 3)) (hp : pc + 3 = pc')
    (k1 : ∀ r T' h', OW p l e R s m args below meth c Z B ml own nm rt n0 z0 T' h' kk' nn' → P' r h' → h.size ≤ h'.size → OF p e below n1 z1 EN Q T' (mkF m pc' L (.long r :: S))) : OF p e below n1 z1 EN Q T (mkF m pc L st) :=
  o_callS W C w1 w2 w3 w4 hy hlen has hst hL hwt hfr hlo hcl hsl hk' hn' hd hp (fun v T' h' W' q z => by
    obtain ⟨r, rfl, q⟩ := q
    exact k1 r T' h' W' q z)
theorem o_callSA {index : Nat} {y : MethodName} {B' : ByteArray} {ml' wt : Nat} {rt' : Option FieldType} {rm : Room} {as : Array Value} {P' : Addr → Heap → Prop} {argsL : List Value} {st : List Value} (W : OW p l e R s m args below meth c Z B ml own nm rt n0 z0 T h kk nn)
    (C : OCon l Z y B' ml' rt' [] rm as h n0 (QA P')) (w1 : (Jvm.Cond.methodLink own index y).before a0 Z = true) (w2 : (Jvm.Cond.static y).before a0 Z = true) (w3 : (Jvm.Cond.initialized y.cls).before a0 Z = true) (w4 : (Jvm.Cond.code y B' ml' rt').before a0 Z = true)
    (hy : y.cls ≠ "java/lang/invoke/MethodHandle" ∧ y.cls ≠ "java/lang/invoke/VarHandle") (hlen : ∀ sig, parseMethodDescriptor y.desc = some sig → argsL.length = sig.parameters.length) (has : argsL.toArray = as) (hst : st = argsL.reverse ++ S) (hL : L.size = ml)
    (hwt : (S.map fun v => v.category).sum = wt) (hfr : rm.frames + 1 ≤ R.frames) (hlo : wt + (ml' + 11) + rm.locals ≤ R.locals) (hcl : kk + rm.cells ≤ R.cells) (hsl : nn + rm.slots ≤ R.slots) (hk' : kk + rm.cells = kk') (hn' : nn + rm.slots = nn')
    (hd : decode B pc = .ok (.invokestatic index, 3)) (hp : pc + 3 = pc')
    (k1 : ∀ r T' h', OW p l e R s m args below meth c Z B ml own nm rt n0 z0 T' h' kk' nn' → P' r h' → h.size ≤ h'.size → OF p e below n1 z1 EN Q T' (mkF m pc' L (.ref r :: S))) : OF p e below n1 z1 EN Q T (mkF m pc L st) :=
  o_callS W C w1 w2 w3 w4 hy hlen has hst hL hwt hfr hlo hcl hsl hk' hn' hd hp (fun v T' h' W' q z => by
    obtain ⟨r, rfl, q⟩ := q
    exact k1 r T' h' W' q z)
/-- an array of ints, bytes or chars at a, with these components -/
def OA (Z : State) (h : Heap) (a : Addr) (ty : FieldType) (xs : List Int32) : Prop := xs.length < 2 ^ 31 ∧ (∀ x ∈ xs, fits ty (.int x) = true) ∧ ∃ cl : Cell, Arr Z h a cl ty ∧ cl.slots = (xs.map Value.int).toArray
theorem OA.lt {a : Addr} {ty : FieldType} {xs : List Int32} (A : OA Z h a ty xs) : a < h.size := by obtain ⟨_, _, _, A, _⟩ := A; exact A.lt
theorem OA.ext {a : Addr} {ty : FieldType} {xs : List Int32} (A : OA Z h a ty xs) (E : Ext h h') : OA Z h' a ty xs := by obtain ⟨q1, q2, cl, A, q3⟩ := A; exact ⟨q1, q2, cl, A.ext E, q3⟩
theorem OA.keep {a : Addr} {ty : FieldType} {xs : List Int32} {ws : List Addr} (A : OA Z h a ty xs) (K : Keep h h' ws) (q : a ∉ ws) : OA Z h' a ty xs := by obtain ⟨q1, q2, cl, A, q3⟩ := A; exact ⟨q1, q2, cl, ⟨K.2.1 a cl A.1 q, A.2⟩, q3⟩
theorem OA.keep1 {a b : Addr} {ty : FieldType} {xs : List Int32} (A : OA Z h a ty xs) (K : Keep h h' [b]) (q : a ≠ b) : OA Z h' a ty xs := A.keep K (by simpa using q)
theorem OA.len {a : Addr} {ty : FieldType} {xs : List Int32} (A : OA Z h a ty xs) : xs.length < 2 ^ 31 := A.1
theorem o_tn (x : Int32) : x.toNatClampNeg = x.toInt.toNat := rfl
theorem o_nat {j : Int32} {i : Nat} (q : j.toInt = i) : j.toNatClampNeg = i := by rw [o_tn, q]; exact Int.toNat_natCast i
theorem o_in {j : Int32} {i : Nat} {xs : List Int32} {cl : Cell} (hi : j.toInt = i) (hs : cl.slots = (xs.map Value.int).toArray) (q : i < xs.length) : ¬ (j < 0 ∨ cl.slots.size ≤ j.toNatClampNeg) := by
  rw [o_nat hi, hs]; simp only [List.size_toArray, List.length_map, Int32.lt_iff_toInt_lt, hi, o_zero]; omega
theorem o_newarray {aty : ArrayType} {ty : FieldType} {v : Int32} {len cap : Nat} (W : OW p l e R s m args below meth c Z B ml own nm rt n0 z0 T h kk nn) (w : (Jvm.Cond.arrayClass ty).before a0 Z = true) (hty : newarray.typeOf aty = ty) (hdv : defaultValue ty = .int 0) (hft : fits ty (.int 0) = true) (hd : decode B pc = .ok (.newarray aty, 2)) (hp : pc + 2 = pc')
    (hv : v.toInt = len) (hlc : len ≤ cap) (hcap : cap * 8 ≤ 536870912) (hc : kk + 1 ≤ R.cells) (hl : nn + cap ≤ R.slots) (hk' : kk + 1 = kk') (hn' : nn + cap = nn')
    (k1 : ∀ T' h' a, OW p l e R s m args below meth c Z B ml own nm rt n0 z0 T' h' kk' nn' → Ext h h' → a = h.size → OA Z h' a ty (List.replicate len 0) → OF p e below n1 z1 EN Q T' (mkF m pc' L (.ref a :: S))) : OF p e below n1 z1 EN Q T (mkF m pc L (.int v :: S)) := by
  subst hp hk' hn' hty
  obtain ⟨cx, hz, hz', eT, locs, X, N⟩ := W
  obtain ⟨hx, hZ, hby, hml, hown, hnm, hr, hlk⟩ := cx
  obtain ⟨T', h', cA, X', e', E, A, st⟩ := newP X hx hZ w eT (g := mkF m pc L (.int v :: S)) rfl (hb hby hd) rfl (o_nlt (by rw [hv, o_zero]; omega)) (cap := cap) (by rw [o_nat hv]; exact hlc) hcap hc hl
  refine OF.step (fun t z => st t z) (k1 T' h' h.size ⟨⟨hx, hZ, hby, hml, hown, hnm, hr, hlk⟩, hz, Nat.le_trans hz' E.1, e', _, X', N⟩ E rfl ⟨by rw [List.length_replicate]; omega, fun x hx => by rw [List.mem_replicate] at hx; rw [hx.2]; exact hft, _, A, ?_⟩)
  simp [newA, hdv, o_nat hv]
theorem o_iaload {a : Addr} {xs : List Int32} {j v : Int32} {i : Nat} (W : OW p l e R s m args below meth c Z B ml own nm rt n0 z0 T h kk nn) (A : OA Z h a .int xs) (hd : decode B pc = .ok (.iaload, 1)) (hp : pc + 1 = pc') (hi : j.toInt = i) (hv : xs[i]? = some v)
    (k1 : OF p e below n1 z1 EN Q T (mkF m pc' L (.int v :: S))) : OF p e below n1 z1 EN Q T (mkF m pc L (.int j :: .ref a :: S)) := by
  subst hp
  obtain ⟨cx, hz, hz', eT, locs, X, N⟩ := W
  obtain ⟨hx, hZ, hby, hml, hown, hnm, hr, hlk⟩ := cx
  obtain ⟨q1, q2, cl, A, q3⟩ := A
  have hlt : i < xs.length := (List.getElem?_eq_some_iff.mp hv).1
  exact OF.step (fun t z => X.iaload hx (j := j) (v := .int v) (by rw [eT]; exact A.1) (State.isArrayOf_alike hZ.alike A.2.1) A.2.2 (o_in hi q3 hlt) (by rw [o_nat hi, q3]; simp [hv]) (g := mkF m pc L (.int j :: .ref a :: S)) rfl rfl (hb hby hd) t z) k1
theorem o_baload {a : Addr} {xs : List Int32} {j v : Int32} {i : Nat} (W : OW p l e R s m args below meth c Z B ml own nm rt n0 z0 T h kk nn) (A : OA Z h a .byte xs) (hd : decode B pc = .ok (.baload, 1)) (hp : pc + 1 = pc') (hi : j.toInt = i) (hv : xs[i]? = some v)
    (k1 : OF p e below n1 z1 EN Q T (mkF m pc' L (.int v :: S))) : OF p e below n1 z1 EN Q T (mkF m pc L (.int j :: .ref a :: S)) := by
  subst hp
  obtain ⟨cx, hz, hz', eT, locs, X, N⟩ := W
  obtain ⟨hx, hZ, hby, hml, hown, hnm, hr, hlk⟩ := cx
  obtain ⟨q1, q2, cl, A, q3⟩ := A
  have hlt : i < xs.length := (List.getElem?_eq_some_iff.mp hv).1
  exact OF.step (fun t z => X.baloadBytes hx (j := j) (v := .int v) (by rw [eT]; exact A.1) (State.isArrayOf_alike hZ.alike A.2.1) A.2.2 (o_in hi q3 hlt) (by rw [o_nat hi, q3]; simp [hv]) (g := mkF m pc L (.int j :: .ref a :: S)) rfl rfl (hb hby hd) t z) k1
theorem o_caload {a : Addr} {xs : List Int32} {j v : Int32} {i : Nat} (W : OW p l e R s m args below meth c Z B ml own nm rt n0 z0 T h kk nn) (A : OA Z h a .char xs) (hd : decode B pc = .ok (.caload, 1)) (hp : pc + 1 = pc') (hi : j.toInt = i) (hv : xs[i]? = some v)
    (k1 : OF p e below n1 z1 EN Q T (mkF m pc' L (.int v :: S))) : OF p e below n1 z1 EN Q T (mkF m pc L (.int j :: .ref a :: S)) := by
  subst hp
  obtain ⟨cx, hz, hz', eT, locs, X, N⟩ := W
  obtain ⟨hx, hZ, hby, hml, hown, hnm, hr, hlk⟩ := cx
  obtain ⟨q1, q2, cl, A, q3⟩ := A
  have hlt : i < xs.length := (List.getElem?_eq_some_iff.mp hv).1
  exact OF.step (fun t z => X.caload hx (j := j) (v := .int v) (by rw [eT]; exact A.1) (State.isArrayOf_alike hZ.alike A.2.1) A.2.2 (o_in hi q3 hlt) (by rw [o_nat hi, q3]; simp [hv]) (g := mkF m pc L (.int j :: .ref a :: S)) rfl rfl (hb hby hd) t z) k1
theorem o_iastore {a : Addr} {xs : List Int32} {j x : Int32} {i : Nat} (W : OW p l e R s m args below meth c Z B ml own nm rt n0 z0 T h kk nn) (A : OA Z h a .int xs) (ha : n0 ≤ a) (hd : decode B pc = .ok (.iastore, 1)) (hp : pc + 1 = pc') (hi : j.toInt = i) (hlt : i < xs.length)
    (k1 : ∀ T' h', OW p l e R s m args below meth c Z B ml own nm rt n0 z0 T' h' kk nn → Keep h h' [a] → OA Z h' a .int (xs.set i (x)) → OF p e below n1 z1 EN Q T' (mkF m pc' L S)) : OF p e below n1 z1 EN Q T (mkF m pc L (.int x :: .int j :: .ref a :: S)) := by
  subst hp
  obtain ⟨cx, hz, hz', eT, locs, X, N⟩ := W
  obtain ⟨hx, hZ, hby, hml, hown, hnm, hr, hlk⟩ := cx
  obtain ⟨q1, q2, cl, A, q3⟩ := A
  obtain ⟨T', h', X', e', Wr', st⟩ := stI X hx hZ eT A (j := j) (x := x) (o_in hi q3 hlt) (g := mkF m pc L (.int x :: .int j :: .ref a :: S)) rfl rfl (hb hby hd)
  have Wr' : Wr h h' a j.toNatClampNeg (.int (x)) := Wr'
  refine OF.step (fun t z => st t z) (k1 T' h' ⟨⟨hx, hZ, hby, hml, hown, hnm, hr, hlk⟩, hz, Nat.le_trans hz' (Nat.le_of_eq Wr'.size.symm), e', _, X', Fr.snoc X' N ha⟩ (Keep.of_wr Wr') ⟨by rw [List.length_set]; exact q1, fun y hy => ?_, _, A.same Wr', ?_⟩)
  · rcases List.mem_or_eq_of_mem_set hy with hy | rfl
    · exact q2 y hy
    · exact rfl
  · rw [o_nat hi]; simp [Cell.setSlot, q3, List.map_set]; try rfl
theorem o_bastore {a : Addr} {xs : List Int32} {j x : Int32} {i : Nat} (W : OW p l e R s m args below meth c Z B ml own nm rt n0 z0 T h kk nn) (A : OA Z h a .byte xs) (ha : n0 ≤ a) (hd : decode B pc = .ok (.bastore, 1)) (hp : pc + 1 = pc') (hi : j.toInt = i) (hlt : i < xs.length)
    (k1 : ∀ T' h', OW p l e R s m args below meth c Z B ml own nm rt n0 z0 T' h' kk nn → Keep h h' [a] → OA Z h' a .byte (xs.set i (x.toInt8.toInt32)) → OF p e below n1 z1 EN Q T' (mkF m pc' L S)) : OF p e below n1 z1 EN Q T (mkF m pc L (.int x :: .int j :: .ref a :: S)) := by
  subst hp
  obtain ⟨cx, hz, hz', eT, locs, X, N⟩ := W
  obtain ⟨hx, hZ, hby, hml, hown, hnm, hr, hlk⟩ := cx
  obtain ⟨q1, q2, cl, A, q3⟩ := A
  obtain ⟨T', h', X', e', Wr', st⟩ := stB X hx hZ eT A (j := j) (x := x) (o_in hi q3 hlt) (g := mkF m pc L (.int x :: .int j :: .ref a :: S)) rfl rfl (hb hby hd)
  have Wr' : Wr h h' a j.toNatClampNeg (.int (x.toInt8.toInt32)) := Wr'
  refine OF.step (fun t z => st t z) (k1 T' h' ⟨⟨hx, hZ, hby, hml, hown, hnm, hr, hlk⟩, hz, Nat.le_trans hz' (Nat.le_of_eq Wr'.size.symm), e', _, X', Fr.snoc X' N ha⟩ (Keep.of_wr Wr') ⟨by rw [List.length_set]; exact q1, fun y hy => ?_, _, A.same Wr', ?_⟩)
  · rcases List.mem_or_eq_of_mem_set hy with hy | rfl
    · exact q2 y hy
    · exact fits_nar_byte x
  · rw [o_nat hi]; simp [Cell.setSlot, q3, List.map_set]; try rfl
theorem o_castore {a : Addr} {xs : List Int32} {j x : Int32} {i : Nat} (W : OW p l e R s m args below meth c Z B ml own nm rt n0 z0 T h kk nn) (A : OA Z h a .char xs) (ha : n0 ≤ a) (hd : decode B pc = .ok (.castore, 1)) (hp : pc + 1 = pc') (hi : j.toInt = i) (hlt : i < xs.length)
    (k1 : ∀ T' h', OW p l e R s m args below meth c Z B ml own nm rt n0 z0 T' h' kk nn → Keep h h' [a] → OA Z h' a .char (xs.set i (x.toUInt32.toUInt16.toUInt32.toInt32)) → OF p e below n1 z1 EN Q T' (mkF m pc' L S)) : OF p e below n1 z1 EN Q T (mkF m pc L (.int x :: .int j :: .ref a :: S)) := by
  subst hp
  obtain ⟨cx, hz, hz', eT, locs, X, N⟩ := W
  obtain ⟨hx, hZ, hby, hml, hown, hnm, hr, hlk⟩ := cx
  obtain ⟨q1, q2, cl, A, q3⟩ := A
  obtain ⟨T', h', X', e', Wr', st⟩ := stC X hx hZ eT A (j := j) (x := x) (o_in hi q3 hlt) (g := mkF m pc L (.int x :: .int j :: .ref a :: S)) rfl rfl (hb hby hd)
  have Wr' : Wr h h' a j.toNatClampNeg (.int (x.toUInt32.toUInt16.toUInt32.toInt32)) := Wr'
  refine OF.step (fun t z => st t z) (k1 T' h' ⟨⟨hx, hZ, hby, hml, hown, hnm, hr, hlk⟩, hz, Nat.le_trans hz' (Nat.le_of_eq Wr'.size.symm), e', _, X', Fr.snoc X' N ha⟩ (Keep.of_wr Wr') ⟨by rw [List.length_set]; exact q1, fun y hy => ?_, _, A.same Wr', ?_⟩)
  · rcases List.mem_or_eq_of_mem_set hy with hy | rfl
    · exact q2 y hy
    · exact fits_nar_char x
  · rw [o_nat hi]; simp [Cell.setSlot, q3, List.map_set]; try rfl
theorem o_arraylength {a : Addr} {ty : FieldType} {xs : List Int32} (W : OW p l e R s m args below meth c Z B ml own nm rt n0 z0 T h kk nn) (A : OA Z h a ty xs) (hd : decode B pc = .ok (.arraylength, 1)) (hp : pc + 1 = pc')
    (k1 : ∀ v : Int32, v.toInt = xs.length → OF p e below n1 z1 EN Q T (mkF m pc' L (.int v :: S))) : OF p e below n1 z1 EN Q T (mkF m pc L (.ref a :: S)) := by
  subst hp
  obtain ⟨cx, hz, hz', eT, locs, X, N⟩ := W
  obtain ⟨hx, hZ, hby, hml, hown, hnm, hr, hlk⟩ := cx
  obtain ⟨q1, q2, cl, A, q3⟩ := A
  have hs : cl.slots.size = xs.length := by rw [q3]; simp
  exact OF.step (fun t z => X.arraylength hx (by rw [eT]; exact A.1) (State.isArrayOf_alike hZ.alike A.2.1) (g := mkF m pc L (.ref a :: S)) rfl rfl (hb hby hd) t z) (k1 cl.slots.size.toInt32 (by rw [hs]; exact len_toInt q1))
theorem OF.join {α : Type} (Jn : α → Prop) (Tf : α → State) (fr : α → JFrame) {f : JFrame} (k1 : ∀ v, Jn v → OF p e below n1 z1 EN Q (Tf v) (fr v)) (k2 : (∀ v, Jn v → OF p e below n1 z1 EN Q (Tf v) (fr v)) → OF p e below n1 z1 EN Q T f) : OF p e below n1 z1 EN Q T f := k2 k1
theorem OF.loop {α : Type} (mu : α → Nat) (Jn : α → Prop) (Tf : α → State) (fr : α → JFrame) (k1 : ∀ v, Jn v → (∀ v', Jn v' → mu v' < mu v → OF p e below n1 z1 EN Q (Tf v') (fr v')) → OF p e below n1 z1 EN Q (Tf v) (fr v)) (v0 : α) (hv0 : Jn v0) : OF p e below n1 z1 EN Q (Tf v0) (fr v0) := by
  have key : ∀ n v, mu v < n → Jn v → OF p e below n1 z1 EN Q (Tf v) (fr v) := by
    intro n
    induction n with
    | zero => intro v hn; omega
    | succ n ih => intro v hn hv; exact k1 v hv (fun v' hv' hlt => ih v' (by omega) hv')
  exact key _ v0 (Nat.lt_succ_self _) hv0
theorem o_new {index n : Nat} {C : String} (W : OW p l e R s m args below meth c Z B ml own nm rt n0 z0 T h kk nn) (w : (Jvm.Cond.classLink own index C).before a0 Z = true) (wi : (Jvm.Cond.instantiable C n).before a0 Z = true) (wz : (Jvm.Cond.initialized C).before a0 Z = true) (hd : decode B pc = .ok (.new index, 3)) (hp : pc + 3 = pc')
    (hc : kk + 1 ≤ R.cells) (hl : nn + n ≤ R.slots) (hk' : kk + 1 = kk') (hn' : nn + n = nn')
    (k1 : ∀ T' h' a, OW p l e R s m args below meth c Z B ml own nm rt n0 z0 T' h' kk' nn' → Ext h h' → a = h.size → Exa Z h' a C → (∀ {O nm d : String} {ty : FieldType}, Laid Z a0 C O nm d → parseFieldDescriptor d = some ty → Fld Z h' a O nm d (defaultValue ty)) → OF p e below n1 z1 EN Q T' (mkF m pc' L (.ref a :: S))) : OF p e below n1 z1 EN Q T (mkF m pc L S) := by
  subst hp hk' hn'
  obtain ⟨cx, hz, hz', eT, locs, X, N⟩ := W
  obtain ⟨hx, hZ, hby, hml, hown, hnm, hr, hlk⟩ := cx
  obtain ⟨T', h', X', e', E, A, D, -, st⟩ := newO X hx hZ hown w wi wz eT (g := mkF m pc L S) rfl (hb hby hd) hc hl
  exact OF.step (fun t z => st t z) (k1 T' h' h.size ⟨⟨hx, hZ, hby, hml, hown, hnm, hr, hlk⟩, hz, Nat.le_trans hz' E.1, e', _, X', N⟩ E rfl A D)
theorem o_getF {index : Nat} {O f d : String} {a : Addr} {v : Value} (W : OW p l e R s m args below meth c Z B ml own nm rt n0 z0 T h kk nn) (w : (Jvm.Cond.fieldLink own index O f d).before a0 Z = true) (Fl : Fld Z h a O f d v) (hd : decode B pc = .ok (.getfield index, 3)) (hp : pc + 3 = pc')
    (k1 : ∀ T', OW p l e R s m args below meth c Z B ml own nm rt n0 z0 T' h kk nn → OF p e below n1 z1 EN Q T' (mkF m pc' L (v :: S))) : OF p e below n1 z1 EN Q T (mkF m pc L (.ref a :: S)) := by
  subst hp
  obtain ⟨cx, hz, hz', eT, locs, X, N⟩ := W
  obtain ⟨hx, hZ, hby, hml, hown, hnm, hr, hlk⟩ := cx
  obtain ⟨T', X', e', st⟩ := getF X hx hZ hown (host := "") (Or.inl w) Via.refl eT Fl (g := mkF m pc L (.ref a :: S)) rfl rfl (hb hby hd)
  exact OF.step (fun t z => st t z) (k1 T' ⟨⟨hx, hZ, hby, hml, hown, hnm, hr, hlk⟩, hz, hz', e', _, X', N⟩)
theorem o_putF {index kz : Nat} {O f d C : String} {a : Addr} {v v' old : Value} {ty : FieldType} (W : OW p l e R s m args below meth c Z B ml own nm rt n0 z0 T h kk nn) (w : (Jvm.Cond.fieldLink own index O f d).before a0 Z = true) (Fl : Fld Z h a O f d old) (E : Exa Z h a C) (Ly : (Jvm.Cond.lays C O f d).before a0 Z = true ∨ ((Jvm.Cond.laysFinal C O f d).before a0 Z = true ∧ own = O ∧ nm = "<init>")) (wi : (Jvm.Cond.instantiable C kz).before a0 Z = true)
    (hty : parseFieldDescriptor d = some ty) (hnw : narrow ty v = v') (hf : fits ty v' = true) (ha : n0 ≤ a) (hd : decode B pc = .ok (.putfield index, 3)) (hp : pc + 3 = pc')
    (k1 : ∀ T' h', OW p l e R s m args below meth c Z B ml own nm rt n0 z0 T' h' kk nn → Wr h h' a (Jvm.RoadKit.slotOf Z O f d) v' → OF p e below n1 z1 EN Q T' (mkF m pc' L S)) : OF p e below n1 z1 EN Q T (mkF m pc L (v :: .ref a :: S)) := by
  subst hp
  obtain ⟨cx, hz, hz', eT, locs, X, N⟩ := W
  obtain ⟨hx, hZ, hby, hml, hown, hnm, hr, hlk⟩ := cx
  obtain ⟨T', h', X', e', Wr', st⟩ := putFN X hx hZ hown w Via.refl eT Fl E (Ly.imp id (fun q => ⟨q.1, q.2.1, hnm.trans q.2.2⟩)) wi hty hnw hf (g := mkF m pc L (v :: .ref a :: S)) rfl rfl (hb hby hd)
  exact OF.step (fun t z => st t z) (k1 T' h' ⟨⟨hx, hZ, hby, hml, hown, hnm, hr, hlk⟩, hz, Nat.le_trans hz' (Nat.le_of_eq Wr'.size.symm), e', _, X', Fr.snoc X' N ha⟩ Wr')
theorem o_initO {index wt : Nat} {a : Addr} (W : OW p l e R s m args below meth c Z B ml own nm rt n0 z0 T h kk nn) (w1 : (Jvm.Cond.methodLink own index Lib.objectInit).before a0 Z = true) (w2 : (Jvm.Cond.instanceMethod Lib.objectInit).before a0 Z = true) (w3 : (Jvm.Cond.code Lib.objectInit ⟨#[0xb1]⟩ 1 none).before a0 Z = true)
    (hL : L.size = ml) (hwt : (S.map fun v => v.category).sum = wt) (hfr : 1 ≤ R.frames) (hlo : wt + 12 ≤ R.locals) (hd : decode B pc = .ok (.invokespecial index, 3)) (hp : pc + 3 = pc')
    (k1 : ∀ T', OW p l e R s m args below meth c Z B ml own nm rt n0 z0 T' h kk nn → OF p e below n1 z1 EN Q T' (mkF m pc' L S)) : OF p e below n1 z1 EN Q T (mkF m pc L (.ref a :: S)) := by
  subst hp
  obtain ⟨cx, hz, hz', eT, locs, X, N⟩ := W
  obtain ⟨hx, hZ, hby, hml, hown, hnm, hr, hlk⟩ := cx
  obtain ⟨T', X', e', st⟩ := initO X hx hZ hown w1 w2 w3 eT (g := mkF m pc L (.ref a :: S)) rfl (hL.trans hml.symm) rfl (hb hby hd) hfr (W := wt) (by show 2 * 0 + _ ≤ _; rw [hwt]; omega) hlo
  exact OF.step (fun t z => st t z) (k1 T' ⟨⟨hx, hZ, hby, hml, hown, hnm, hr, hlk⟩, hz, hz', e', _, X', N⟩)
theorem o_callC {index : Nat} {y : MethodName} {B' : ByteArray} {ml' wt : Nat} {rm : Room} {as : Array Value} {P' : Heap → Prop} {a : Addr} {argsL : List Value} {st : List Value} (W : OW p l e R s m args below meth c Z B ml own nm rt n0 z0 T h kk nn)
    (C : OCon l Z y B' ml' none [] rm as h n0 (QV P')) (hy1 : y.name = "<init>") (w1 : (Jvm.Cond.methodLink own index y).before a0 Z = true) (w2 : (Jvm.Cond.instanceMethod y).before a0 Z = true) (w3 : (Jvm.Cond.initialized y.cls).before a0 Z = true) (w4 : (Jvm.Cond.code y B' ml' none).before a0 Z = true)
    (hy : y.cls ≠ "java/lang/invoke/MethodHandle" ∧ y.cls ≠ "java/lang/invoke/VarHandle") (hlen : ∀ sig, parseMethodDescriptor y.desc = some sig → argsL.length = sig.parameters.length) (has : (.ref a :: argsL).toArray = as) (hst : st = argsL.reverse ++ .ref a :: S) (hL : L.size = ml)
    (hwt : (S.map fun v => v.category).sum = wt) (hfr : rm.frames + 1 ≤ R.frames) (hlo : wt + (ml' + 11) + rm.locals ≤ R.locals) (hcl : kk + rm.cells ≤ R.cells) (hsl : nn + rm.slots ≤ R.slots) (hk' : kk + rm.cells = kk') (hn' : nn + rm.slots = nn')
    (hd : decode B pc = .ok (.invokespecial index, 3)) (hp : pc + 3 = pc')
    (k1 : ∀ T' h', OW p l e R s m args below meth c Z B ml own nm rt n0 z0 T' h' kk' nn' → P' h' → h.size ≤ h'.size → OF p e below n1 z1 EN Q T' (mkF m pc' L S)) : OF p e below n1 z1 EN Q T (mkF m pc L st) := by
  subst hp has hk' hn' hst
  obtain ⟨cx, hz, hz', eT, locs, X, N⟩ := W
  obtain ⟨hx, hZ, hby, hml, hown, hnm, hr, hlk⟩ := cx
  obtain ⟨v, _, ⟨T', L2, k2, n2⟩, -, X2, ⟨Lc, hQ, l2, y2, z2⟩, st2⟩ := X.specialBack hx (y := y) hy1 hown (mvT hZ w1) (mvT hZ w2) (mvT hZ w4) hy (backOf (W := wt) (Q := OQ (QV P') h.size n0) C hZ w4 w3 hfr hlo) (g := mkF m pc L (argsL.reverse ++ .ref a :: S)) rfl (hL.trans hml.symm) (Steps.refl _) (a := a) (argsL := argsL) (rest := S) hlen rfl
    (by show 2 * 0 + _ ≤ _; rw [hwt]; omega) (hb hby hd) (fun _ _ => ⟨rfl, eT, hcl, hsl⟩)
  dsimp only [Pt.U, Pt.locs, Pt.cells, Pt.slots] at X2 l2 y2 z2 st2 hQ
  subst l2 y2 z2
  obtain ⟨⟨rfl, q1⟩, q2, q3⟩ := hQ
  exact OF.step (fun t z => st2.trans z) (k1 T' T'.heap ⟨⟨hx, hZ, hby, hml, hown, hnm, hr, hlk⟩, hz, Nat.le_trans hz' q2, rfl, _, X2, Fr.app N q3⟩ q1 q2)
theorem o_callV {index : Nat} {y z : MethodName} {K : String} {B' : ByteArray} {ml' wt : Nat} {rt' : Option FieldType} {rm : Room} {as : Array Value} {Q' : Option Value → Heap → Prop} {a : Addr} {argsL : List Value} {st : List Value} (W : OW p l e R s m args below meth c Z B ml own nm rt n0 z0 T h kk nn)
    (E : Exa Z h a K) (C : OCon l Z z B' ml' rt' [] rm as h n0 Q') (w1 : (Jvm.Cond.methodLink own index y).before a0 Z = true) (w2 : (Jvm.Cond.declares y).before a0 Z = true) (w5 : NotFace s y) (w6 : (Jvm.Cond.selects K y z).before a0 Z = true) (w7 : (Jvm.Cond.instanceMethod z).before a0 Z = true) (w3 : (Jvm.Cond.initialized z.cls).before a0 Z = true) (w4 : (Jvm.Cond.code z B' ml' rt').before a0 Z = true)
    (hy : y.cls ≠ "java/lang/invoke/MethodHandle" ∧ y.cls ≠ "java/lang/invoke/VarHandle") (hlen : ∀ sig, parseMethodDescriptor y.desc = some sig → argsL.length = sig.parameters.length) (has : (.ref a :: argsL).toArray = as) (hst : st = argsL.reverse ++ .ref a :: S) (hL : L.size = ml)
    (hwt : (S.map fun v => v.category).sum = wt) (hfr : rm.frames + 1 ≤ R.frames) (hlo : wt + (ml' + 11) + rm.locals ≤ R.locals) (hcl : kk + rm.cells ≤ R.cells) (hsl : nn + rm.slots ≤ R.slots) (hk' : kk + rm.cells = kk') (hn' : nn + rm.slots = nn')
    (hd : decode B pc = .ok (.invokevirtual index, 3)) (hp : pc + 3 = pc')
    (k1 : ∀ v T' h', OW p l e R s m args below meth c Z B ml own nm rt n0 z0 T' h' kk' nn' → Q' v h' → h.size ≤ h'.size → OF p e below n1 z1 EN Q T' (mkF m pc' L (v.toList ++ S))) : OF p e below n1 z1 EN Q T (mkF m pc L st) := by
  subst hp has hk' hn' hst
  obtain ⟨cx, hz, hz', eT, locs, X, N⟩ := W
  obtain ⟨hx, hZ, hby, hml, hown, hnm, hr, hlk⟩ := cx
  obtain ⟨cq, kq, qa, qb, qc⟩ := isOf hZ eT E
  obtain ⟨v, _, ⟨T', L2, k2, n2⟩, -, X2, ⟨Lc, hQ, l2, y2, z2⟩, st2⟩ := X.virtualBack hx (y := y) (z := z) hown (mvT hZ w1) (mvT hZ w2) w5 (mvT hZ w6) (mvT hZ w7) hy (backOf (W := wt) (Q := OQ Q' h.size n0) C hZ w4 w3 hfr hlo) qa qc (g := mkF m pc L (argsL.reverse ++ .ref a :: S)) rfl (hL.trans hml.symm) (Steps.refl _) (argsL := argsL) (rest := S) hlen rfl
    (by show 2 * 0 + _ ≤ _; rw [hwt]; omega) (hb hby hd) (fun _ _ => ⟨rfl, eT, hcl, hsl⟩)
  dsimp only [Pt.U, Pt.locs, Pt.cells, Pt.slots] at X2 l2 y2 z2 st2 hQ
  subst l2 y2 z2
  obtain ⟨q1, q2, q3⟩ := hQ
  exact OF.step (fun t z => st2.trans z) (k1 v T' T'.heap ⟨⟨hx, hZ, hby, hml, hown, hnm, hr, hlk⟩, hz, Nat.le_trans hz' q2, rfl, _, X2, Fr.app N q3⟩ q1 q2)
end OwnKit
theorem ow {a0 : Array Value} {Z : State} (hw : ∀ d ∈ tables_1, d.before a0 Z = true) (k : Nat) {d : Jvm.Cond} (h : tables_1[k]? = some d) : d.before a0 Z = true := hw _ (List.mem_of_getElem? h)
section OwnKit2
variable {p : Program} {l : Launch} {e : Env} {R : Room} {s : State} {m : MethodId} {args : Array Value} {below : List Frame} {meth : Method} {c : Code} {Z : State} {B : ByteArray} {ml : Nat} {own nm : String} {rt : Option FieldType} {n0 z0 n1 z1 kc ns : Nat} {EN : Outcome → State → List Loc → Prop} {T : State} {h h' : Heap} {kk nn kk' nn' : Nat} {Q : Option Value → Heap → Prop} {pc pc' pq : Nat} {L L' : Array Slot} {S : List Value} {a0 : Array Value}
theorem o_newarrayE {aty : ArrayType} {ty : FieldType} {ad : String} {v : Int32} {len cap : Nat} (W : OW p l e R s m args below meth c Z B ml own nm rt n0 z0 T h kk nn) (w : (Jvm.Cond.arrayClass ty).before a0 Z = true) (hty : newarray.typeOf aty = ty) (had : "[" ++ ty.toString = ad) (hdv : defaultValue ty = .int 0) (hft : fits ty (.int 0) = true) (hd : decode B pc = .ok (.newarray aty, 2)) (hp : pc + 2 = pc')
    (hv : v.toInt = len) (hlc : len ≤ cap) (hcap : cap * 8 ≤ 536870912) (hc : kk + 1 ≤ R.cells) (hl : nn + cap ≤ R.slots) (hk' : kk + 1 = kk') (hn' : nn + cap = nn')
    (k1 : ∀ T' h' a, OW p l e R s m args below meth c Z B ml own nm rt n0 z0 T' h' kk' nn' → Ext h h' → a = h.size → OA Z h' a ty (List.replicate len 0) → Exa Z h' a ad → OF p e below n1 z1 EN Q T' (mkF m pc' L (.ref a :: S))) : OF p e below n1 z1 EN Q T (mkF m pc L (.int v :: S)) := by
  subst hp hk' hn' hty
  obtain ⟨cx, hz, hz', eT, locs, X, N⟩ := W
  obtain ⟨hx, hZ, hby, hml, hown, hnm, hr, hlk⟩ := cx
  obtain ⟨T', h', cA, X', e', E, A, XA, st⟩ := newPE X hx hZ w eT (g := mkF m pc L (.int v :: S)) rfl (hb hby hd) rfl (o_nlt (by rw [hv, o_zero]; omega)) (cap := cap) (by rw [o_nat hv]; exact hlc) hcap hc hl had
  refine OF.step (fun t z => st t z) (k1 T' h' h.size ⟨⟨hx, hZ, hby, hml, hown, hnm, hr, hlk⟩, hz, Nat.le_trans hz' E.1, e', _, X', N⟩ E rfl ⟨by rw [List.length_replicate]; omega, fun x hx => by rw [List.mem_replicate] at hx; rw [hx.2]; exact hft, _, A, ?_⟩ XA)
  simp [newA, hdv, o_nat hv]
theorem o_clone {index : Nat} {ad : String} {a : Addr} {ty : FieldType} {xs : List Int32} {wt cap : Nat} (W : OW p l e R s m args below meth c Z B ml own nm rt n0 z0 T h kk nn) (A : OA Z h a ty xs) (E : Exa Z h a ad)
    (w1 : (Jvm.Cond.methodLink own index ⟨ad, "clone", "()Ljava/lang/Object;"⟩).before a0 Z = true) (w2 : (Jvm.Cond.sameMethod ad "java/lang/Object" "clone" "()Ljava/lang/Object;").before a0 Z = true) (w3 : (Jvm.Cond.native ⟨"java/lang/Object", "clone", "()Ljava/lang/Object;"⟩).before a0 Z = true)
    (w4 : (Jvm.Cond.instanceMethod ⟨"java/lang/Object", "clone", "()Ljava/lang/Object;"⟩).before a0 Z = true) (w5 : (Jvm.Cond.selects ad ⟨ad, "clone", "()Ljava/lang/Object;"⟩ ⟨"java/lang/Object", "clone", "()Ljava/lang/Object;"⟩).before a0 Z = true) (w6 : (Jvm.Cond.castable ad "java/lang/Cloneable").before a0 Z = true)
    (hL : L.size = ml) (hwt : (S.map fun v => v.category).sum = wt) (hfr : 1 ≤ R.frames) (hlo : wt + 14 ≤ R.locals) (hcap : xs.length ≤ cap) (hc : kk + 1 ≤ R.cells) (hl : nn + cap ≤ R.slots) (hk' : kk + 1 = kk') (hn' : nn + cap = nn') (hd : decode B pc = .ok (.invokevirtual index, 3)) (hp : pc + 3 = pc')
    (k1 : ∀ T' h' b, OW p l e R s m args below meth c Z B ml own nm rt n0 z0 T' h' kk' nn' → Ext h h' → b = h.size → OA Z h' b ty xs → Exa Z h' b ad → OF p e below n1 z1 EN Q T' (mkF m pc' L (.ref b :: S))) : OF p e below n1 z1 EN Q T (mkF m pc L (.ref a :: S)) := by
  subst hp hk' hn'
  obtain ⟨cx, hz, hz', eT, locs, X, N⟩ := W
  obtain ⟨hx, hZ, hby, hml, hown, hnm, hr, hlk⟩ := cx
  obtain ⟨q1, q2, cl, A, q3⟩ := A
  have FC : FitC Z cl := fitC_of A fun i hi v hv => by
    rw [q3] at hv
    simp only [List.getElem?_toArray, List.getElem?_map, Option.map_eq_some_iff] at hv
    obtain ⟨x, hx', rfl⟩ := hv
    exact q2 x (List.mem_of_getElem? hx')
  have hsz : cl.slots.size = xs.length := by rw [q3]; simp
  obtain ⟨T', h', X', e', ex, A', E', st⟩ := cloneA X hx hZ hown w1 w2 w3 w4 w5 w6 eT A E FC (g := mkF m pc L (.ref a :: S)) rfl (hL.trans hml.symm) rfl (hb hby hd) hfr (W := wt) (by show 2 * 0 + _ ≤ _; rw [hwt]; omega) hlo (by rw [hsz]; exact hcap) hc hl
  exact OF.step (fun t z => st t z) (k1 T' h' h.size ⟨⟨hx, hZ, hby, hml, hown, hnm, hr, hlk⟩, hz, Nat.le_trans hz' ex.1, e', _, X', N⟩ ex rfl ⟨q1, q2, _, A', q3⟩ E')
theorem o_castY {index : Nat} {K : String} {a : Addr} (W : OW p l e R s m args below meth c Z B ml own nm rt n0 z0 T h kk nn) (w : (Jvm.Cond.classLink own index K).before a0 Z = true) (E : Exa Z h a K) (hd : decode B pc = .ok (.checkcast index, 3)) (hp : pc + 3 = pc')
    (k1 : ∀ T', OW p l e R s m args below meth c Z B ml own nm rt n0 z0 T' h kk nn → OF p e below n1 z1 EN Q T' (mkF m pc' L (.ref a :: S))) : OF p e below n1 z1 EN Q T (mkF m pc L (.ref a :: S)) := by
  subst hp
  obtain ⟨cx, hz, hz', eT, locs, X, N⟩ := W
  obtain ⟨hx, hZ, hby, hml, hown, hnm, hr, hlk⟩ := cx
  obtain ⟨T', X', e', st⟩ := castY X hx hZ hown w eT (Ins.self E) (g := mkF m pc L (.ref a :: S)) rfl rfl (hb hby hd)
  exact OF.step (fun t z => st t z) (k1 T' ⟨⟨hx, hZ, hby, hml, hown, hnm, hr, hlk⟩, hz, hz', e', _, X', N⟩)
theorem o_ifnullNo {o : Int} {a : Addr} (W : OW p l e R s m args below meth c Z B ml own nm rt n0 z0 T h kk nn) (hd : decode B pc = .ok (.ifnull o, 3)) (hp : pc + 3 = pc') (k1 : OF p e below n1 z1 EN Q T (mkF m pc' L S)) : OF p e below n1 z1 EN Q T (mkF m pc L (.ref a :: S)) := by
  subst hp; exact OF.step (fun t q => XS.ifnullNo W.here W.hx rfl (hb W.by hd) rfl q) k1
theorem o_acmpne {o : Int} {a b : Addr} (W : OW p l e R s m args below meth c Z B ml own nm rt n0 z0 T h kk nn) (hne : a ≠ b) (hd : decode B pc = .ok (.if_acmp .ne o, 3)) (ho : 0 ≤ (pc : Int) + o) (hq : ((pc : Int) + o).toNat = pq) (k1 : OF p e below n1 z1 EN Q T (mkF m pq L S)) : OF p e below n1 z1 EN Q T (mkF m pc L (.ref b :: .ref a :: S)) := by
  obtain ⟨cx, hz, hz', eT, locs, X, N⟩ := W
  obtain ⟨hx, hZ, hby, hml, hown, hnm, hr, hlk⟩ := cx
  exact OF.step (fun t z => Jvm.RoadKit.acmp (g := mkF m pc L (.ref b :: .ref a :: S)) X hx rfl rfl rfl (pc0 := pc) (pc' := pq) (same := false) rfl (hb hby hd) rfl (decide_eq_false fun q => hne (Value.ref.inj q)) ho (by rw [← hq]; rfl) z) k1
theorem OA.arv {a : Addr} {ty : FieldType} {xs : List Int32} (A : OA Z h a ty xs) : ∃ (k : ClassId) (z : Int32), z.toInt = xs.length ∧ Arv Z h a k ty z (xs.map Value.int) (.int 0) := by
  obtain ⟨q1, q2, cl, A, q3⟩ := A
  have hsz : cl.slots.size = xs.length := by rw [q3]; simp
  have hz : (xs.length.toInt32).toInt = xs.length := len_toInt q1
  refine ⟨_, xs.length.toInt32, hz, cl, A, rfl, ?_, ?_, fun i hi => ?_, fun i hi => ?_⟩
  · rw [hsz, o_nat hz]
  · exact o_nlt (by rw [hz, o_zero]; omega)
  · rw [hsz] at hi
    rw [q3]
    simp [List.getD_eq_getElem?_getD, hi]
  · rw [hsz] at hi
    have : (xs.map Value.int).getD i (.int 0) = .int xs[i] := by simp [List.getD_eq_getElem?_getD, hi]
    rw [this]
    exact q2 _ (List.getElem_mem hi)
theorem OA.of_arv {a : Addr} {k : ClassId} {ty : FieldType} {z : Int32} {xs : List Int32} {vs : List Value} {d : Value} (F : Arv Z h a k ty z vs d) (hvs : vs = xs.map Value.int) (hz : z.toInt = xs.length) : OA Z h a ty xs := by
  subst hvs
  obtain ⟨cl, A, -, S1, q3, H, G⟩ := F
  have hzl := z.toInt_lt
  have hsz : cl.slots.size = xs.length := by rw [S1, o_nat hz]
  refine ⟨by omega, fun x hx => ?_, cl, A, ?_⟩
  · obtain ⟨i, hi, rfl⟩ := List.getElem_of_mem hx
    have q := G i (by rw [hsz]; exact hi)
    have : (xs.map Value.int).getD i d = .int xs[i] := by simp [List.getD_eq_getElem?_getD, hi]
    rw [this] at q; exact q
  · apply Array.ext
    · rw [hsz]; simp
    · intro i h1 h2
      have q := H i h1
      rw [hsz] at h1
      rw [Array.getElem?_eq_getElem (by rw [hsz]; exact h1)] at q
      have : (xs.map Value.int).getD i d = .int xs[i] := by simp [List.getD_eq_getElem?_getD, h1]
      rw [this] at q
      rw [Option.some.inj q]; simp
theorem o_arraycopy {index : Nat} {a b : Addr} {ty : FieldType} {xs ys us zs : List Int32} {sp dp nv : Int32} {i j n wt : Nat} (W : OW p l e R s m args below meth c Z B ml own nm rt n0 z0 T h kk nn) (A : OA Z h a ty xs) (A2 : OA Z h b ty ys) (hrk : refKind ty = false) (hb0 : n0 ≤ b)
    (w1 : (Jvm.Cond.methodLink own index Jvm.Stand.acN).before a0 Z = true) (w2 : (Jvm.Cond.native Jvm.Stand.acN).before a0 Z = true) (w3 : (Jvm.Cond.static Jvm.Stand.acN).before a0 Z = true) (w4 : (Jvm.Cond.initialized "java/lang/System").before a0 Z = true)
    (h1 : sp.toInt = i) (h2 : dp.toInt = j) (h3 : nv.toInt = n) (h4 : i + n ≤ xs.length) (h5 : j + n ≤ ys.length) (hus : us.map Value.int = (List.range n).map fun q => (xs.map Value.int).getD (i + q) (.int 0)) (hzs : zs.map Value.int = (ys.map Value.int).take j ++ us.map Value.int ++ (ys.map Value.int).drop (j + n))
    (hL : L.size = ml) (hwt : (S.map fun v => v.category).sum = wt) (hfr : 1 ≤ R.frames) (hlo : wt + 18 ≤ R.locals) (hd : decode B pc = .ok (.invokestatic index, 3)) (hp : pc + 3 = pc')
    (k1 : ∀ T' h', OW p l e R s m args below meth c Z B ml own nm rt n0 z0 T' h' kk nn → Keep h h' [b] → OA Z h' b ty zs → OF p e below n1 z1 EN Q T' (mkF m pc' L S)) : OF p e below n1 z1 EN Q T (mkF m pc L (.int nv :: .int dp :: .ref b :: .int sp :: .ref a :: S)) := by
  subst hp
  obtain ⟨cx, hz, hz', eT, locs, X, N⟩ := W
  obtain ⟨hx, hZ, hby, hml, hown, hnm, hr, hlk⟩ := cx
  obtain ⟨k, z, ez, V⟩ := A.arv
  obtain ⟨k2, z2, ez2, V2⟩ := A2.arv
  obtain ⟨T', h', L2, X', e', N', K, V', st⟩ := cpA X hx hZ hown w1 w2 w3 w4 eT V V2 (us := us.map Value.int) (Or.inl ⟨rfl, hrk⟩) (o_nlt (by rw [h1, o_zero]; omega)) (o_nlt (by rw [h2, o_zero]; omega)) (o_nlt (by rw [h3, o_zero]; omega))
    (by rw [o_nat h1, o_nat h3, o_nat ez]; exact h4) (by rw [o_nat h2, o_nat h3, o_nat ez2]; exact h5) (by rw [o_nat h1, o_nat h3]; exact hus) (by rw [o_nat h2, o_nat h3, List.length_map]; exact h5) N hb0
    (g := mkF m pc L (.int nv :: .int dp :: .ref b :: .int sp :: .ref a :: S)) rfl (hL.trans hml.symm) rfl (hb hby hd) hfr (W := wt) (by show 2 * 0 + _ ≤ _; rw [hwt]; omega) hlo
  rw [o_nat h2, o_nat h3, ← hzs] at V'
  have hlen : zs.length = ys.length := by
    have q := congrArg List.length hzs
    have q2 := congrArg List.length hus
    simp only [List.length_map, List.length_append, List.length_take, List.length_drop, List.length_range] at q q2
    omega
  exact OF.step (fun t z => st t z) (k1 T' h' ⟨⟨hx, hZ, hby, hml, hown, hnm, hr, hlk⟩, hz, Nat.le_trans hz' K.1, e', _, X', N'⟩ K (OA.of_arv V' rfl (by rw [ez2, hlen])))
end OwnKit2
theorem own_rng (x : Int32) : -2147483648 ≤ x.toInt ∧ x.toInt < 2147483648 := ⟨x.le_toInt, x.toInt_lt⟩
theorem own_lrng (x : Int64) : -9223372036854775808 ≤ x.toInt ∧ x.toInt < 9223372036854775808 := ⟨x.le_toInt, x.toInt_lt⟩
theorem own_rem (x y : Int32) : (x - (x / y) * y).toInt = x.toInt.tmod y.toInt := by
  have a := (x % y).toInt_lt; have b := (x % y).le_toInt
  rw [Int32.toInt_mod] at a b
  rw [Int32.toInt_sub, Int32.toInt_mul, Int32.toInt_div, Int.bmod_mul_bmod, Int.sub_bmod_bmod, Int.mul_comm, ← Int.tmod_def]
  exact Jvm.Kit.bmod32 b a
theorem own_remp {x y : Int32} (hx : 0 ≤ x.toInt) : (x - (x / y) * y).toInt = x.toInt % y.toInt := by rw [own_rem, Int.tmod_eq_emod_of_nonneg hx]
theorem own_char (x : Int32) : 0 ≤ (x.toUInt32.toUInt16.toUInt32.toInt32).toInt ∧ (x.toUInt32.toUInt16.toUInt32.toInt32).toInt ≤ 65535 := by
  have q := fits_nar_char x
  simp only [fits, nar, Bool.and_eq_true, decide_eq_true_eq, Int32.le_iff_toInt_le] at q
  exact q
theorem own_ix {x y : Int32} {n : Nat} (hx : 0 ≤ x.toInt) (hy : y.toInt = n) (hn : 0 < n) : ∃ i : Nat, (x - x / y * y).toInt = i ∧ i < n := by
  have h := own_remp (y := y) hx
  rw [hy] at h
  have h1 := Int.emod_nonneg x.toInt (b := (n : Int)) (by omega)
  have h2 := Int.emod_lt_of_pos x.toInt (b := (n : Int)) (by omega)
  exact ⟨(x.toInt % n).toNat, by omega, by omega⟩
theorem own_nz {v : Int32} {n : Nat} (h : v.toInt = n) (hn : 0 < n) : v ≠ 0 := fun e => by
  rw [e] at h; have c0 : (0 : Int32).toInt = 0 := rfl; omega
theorem own_and31 (x : Int32) : 0 ≤ (x &&& 2147483647).toInt := by
  have h1 : (x &&& 2147483647).toInt = x.toInt % 2147483648 := Jvm.Kit.i32_mask x 2147483647 (k := 31) (by decide) (by decide)
  omega
theorem own_ushr (x : Int32) {n : UInt32} {k : Nat} (hn : n.toNat = k) (h0 : 0 < k) (hk : k < 32) : ((x.toUInt32 >>> n).toInt32).toInt = ((x.toUInt32.toNat / 2 ^ k : Nat) : Int) := by
  have e : ((x.toUInt32 >>> n).toInt32).toInt = ((x.toUInt32 >>> n).toBitVec).toInt := rfl
  have q : (x.toUInt32 >>> n).toBitVec.toNat = x.toUInt32.toNat / 2 ^ k := by
    show (x.toUInt32 >>> n).toNat = _
    rw [UInt32.toNat_shiftRight, hn, Nat.mod_eq_of_lt hk, Nat.shiftRight_eq_div_pow]
  have lt := x.toUInt32.toNat_lt
  have p1 : 2 ^ 1 ≤ 2 ^ k := Nat.pow_le_pow_right (by decide) h0
  have p2 : x.toUInt32.toNat / 2 ^ k ≤ x.toUInt32.toNat / 2 ^ 1 := Nat.div_le_div_left p1 (by decide)
  rw [e, BitVec.toInt_eq_toNat_cond, q, if_pos (by omega)]
theorem own_ushr1 (x : Int32) : 0 ≤ ((x.toUInt32 >>> ((1 : Int32) &&& 31).toUInt32).toInt32).toInt := by
  rw [own_ushr x (k := 1) (by decide) (by decide) (by decide)]; omega
theorem own_nn {v : Int32} (h : 0 ≤ v.toInt) : v.toBitVec.toNat = v.toInt.toNat := by
  have q : v.toInt = v.toBitVec.toInt := rfl
  rw [BitVec.toInt_eq_toNat_cond] at q
  have := v.toBitVec.isLt
  split at q <;> omega
theorem own_lnn {v : Int64} (h : 0 ≤ v.toInt) : v.toBitVec.toNat = v.toInt.toNat := by
  have q : v.toInt = v.toBitVec.toInt := rfl
  rw [BitVec.toInt_eq_toNat_cond] at q
  have := v.toBitVec.isLt
  split at q <;> omega
def own_ba (x k : Int32) : Int32 := (((x.toUInt32 >>> (((8 : Int32) * k) &&& 31).toUInt32).toInt32).toInt8.toInt32).toInt8.toInt32
theorem own_bmod8 (a : Int) : (a.bmod (2 ^ 8)) % 256 = a % 256 := by rw [Int.bmod_def]; split <;> omega
theorem own_i8 {x y : Int32} (h : x.toInt % 256 = y.toInt % 256) : x.toInt8 = y.toInt8 := by
  apply Int8.toInt_inj.mp
  rw [Int32.toInt_toInt8, Int32.toInt_toInt8, Int.bmod_def, Int.bmod_def]
  have p8 : ((2 ^ 8 : Nat) : Int) = 256 := rfl
  rw [p8, h]
theorem own_dbl (x : Int32) : (x.toInt8.toInt32).toInt8.toInt32 = x.toInt8.toInt32 := by
  have : (x.toInt8.toInt32).toInt8 = x.toInt8 := by
    apply own_i8
    rw [Int8.toInt_toInt32, Int32.toInt_toInt8, own_bmod8]
  rw [this]
theorem own_bad (x k : Int32) : (own_ba x k).toInt8.toInt32 = own_ba x k := own_dbl _
theorem own_five (x : Int32) : (x &&& 2147483647) - (x &&& 2147483647) / 5 * 5 = 0 ∨ (x &&& 2147483647) - (x &&& 2147483647) / 5 * 5 = 1 ∨ (x &&& 2147483647) - (x &&& 2147483647) / 5 * 5 = 2 ∨ (x &&& 2147483647) - (x &&& 2147483647) / 5 * 5 = 3 ∨ (x &&& 2147483647) - (x &&& 2147483647) / 5 * 5 = 4 := by
  obtain ⟨i, h1, h2⟩ := own_ix (own_and31 x) (y := 5) (n := 5) rfl (by decide)
  have h5 : i = 0 ∨ i = 1 ∨ i = 2 ∨ i = 3 ∨ i = 4 := by omega
  rcases h5 with rfl | rfl | rfl | rfl | rfl
  · exact Or.inl (o_eq h1)
  · exact Or.inr (Or.inl (o_eq h1))
  · exact Or.inr (Or.inr (Or.inl (o_eq h1)))
  · exact Or.inr (Or.inr (Or.inr (Or.inl (o_eq h1))))
  · exact Or.inr (Or.inr (Or.inr (Or.inr (o_eq h1))))
theorem own_pn0 : plainName "com/example/austere_access/austereaccess/crypto/ValueContentsPinLaw" = true := by first | (simp [plainName, overriddenIn]; done) | decide +kernel
theorem own_ef1 (m : MethodId) (z0 : Int32) (z1 : Int32) : entryFrame m #[(.int z0), (.int z1)] 2 = mkF m 0 #[.val (.int z0), .val (.int z1)] [] := by first | (simp [entryFrame, mkF, argsToLocals, Value.category]; done) | rfl
theorem own_d1_0 : decode method_2_code 0 = .ok (.iload_n 0, 1) := by decide +kernel
theorem own_d1_1 : decode method_2_code 1 = .ok (.bipush 8, 2) := by decide +kernel
theorem own_d1_3 : decode method_2_code 3 = .ok (.iload_n 1, 1) := by decide +kernel
theorem own_d1_4 : decode method_2_code 4 = .ok (.imul, 1) := by decide +kernel
theorem own_d1_5 : decode method_2_code 5 = .ok (.iushr, 1) := by decide +kernel
theorem own_d1_6 : decode method_2_code 6 = .ok (.i2b, 1) := by decide +kernel
theorem own_d1_7 : decode method_2_code 7 = .ok (.ireturn, 1) := by decide +kernel
set_option maxRecDepth 65536 in
set_option maxHeartbeats 4000000 in
theorem rm1 (l : Launch) (Z : State) (a0 : Array Value) (hw : ∀ d ∈ tables_1, d.before a0 Z = true) (y0 : Int32) (y1 : Int32) (h0 : Heap) (n0 : Nat) (Z0 : n0 ≤ h0.size) :
    OCon l Z (⟨"com/example/austere_access/austereaccess/crypto/ValueContentsPinLaw", "byteAt", "(II)B"⟩ : MethodName) method_2_code 2 (some .byte) [] ({ frames := 0, cells := 0, slots := 0, locals := 0 } : Room) #[(.int y0), (.int y1)] h0 n0 (QI fun r h' => r = own_ba y0 y1 ∧ h0 = h') := by
  refine OCon.mk (plainFor_of_name own_pn0) Z0 ?_
  intro p e s m below meth cd s₁ W0
  refine OF.cast (own_ef1 m y0 y1) ?_
  refine o_iloadN W0 own_d1_0 (v := y0) rfl (pc' := 1) rfl ?_
  refine o_bipush W0 (v := (8 : Int32)) own_d1_1 rfl (pc' := 3) rfl ?_
  refine o_iloadN W0 own_d1_3 (v := y1) rfl (pc' := 4) rfl ?_
  refine o_imul W0 own_d1_4 (pc' := 5) rfl ?_
  refine o_iushr W0 own_d1_5 (pc' := 6) rfl ?_
  refine o_i2b W0 own_d1_6 (pc' := 7) rfl ?_
  refine o_retN W0 (t := .byte) rfl (by simp) own_d1_7 (by decide) (by decide) ?_
  exact ⟨_, rfl, rfl, rfl⟩
theorem own_pn1 : plainName "java/lang/Record" = true := by first | (simp [plainName, overriddenIn]; done) | decide +kernel
theorem own_ef3 (m : MethodId) (z0 : Addr) : entryFrame m #[(.ref z0)] 1 = mkF m 0 #[.val (.ref z0)] [] := by first | (simp [entryFrame, mkF, argsToLocals, Value.category]; done) | rfl
theorem own_d3_0 : decode jdk_30_method_1_code 0 = .ok (.aload_n 0, 1) := by decide +kernel
theorem own_d3_1 : decode jdk_30_method_1_code 1 = .ok (.invokespecial 1, 3) := by decide +kernel
theorem own_d3_4 : decode jdk_30_method_1_code 4 = .ok (.return_, 1) := by decide +kernel
set_option maxRecDepth 65536 in
set_option maxHeartbeats 4000000 in
theorem rm3 (l : Launch) (Z : State) (a0 : Array Value) (hw : ∀ d ∈ tables_1, d.before a0 Z = true) (b0 : Addr) (h0 : Heap) (n0 : Nat) (Z0 : n0 ≤ h0.size) :
    OCon l Z (⟨"java/lang/Record", "<init>", "()V"⟩ : MethodName) jdk_30_method_1_code 1 none [] ({ frames := 1, cells := 0, slots := 0, locals := 12 } : Room) #[(.ref b0)] h0 n0 (QV fun h' => h0 = h') := by
  refine OCon.mk (plainFor_of_name own_pn1) Z0 ?_
  intro p e s m below meth cd s₁ W0
  refine OF.cast (own_ef3 m b0) ?_
  refine o_aloadN W0 own_d3_0 (v := (.ref b0)) rfl rfl (pc' := 1) rfl ?_
  refine o_initO W0 (ow hw 17 rfl) (ow hw 18 rfl) (ow hw 19 rfl) rfl (wt := 0) rfl (by decide) (by decide) own_d3_1 (pc' := 4) rfl ?_
  intro T1 W1
  refine o_retV W1 rfl own_d3_4 (by decide) (by decide) ?_
  exact ⟨rfl, rfl⟩
theorem own_pn2 : plainName "com/example/austere_access/austereaccess/crypto/Der$Value" = true := by first | (simp [plainName, overriddenIn]; done) | decide +kernel
theorem own_ef2 (m : MethodId) (z0 : Addr) (z1 : Int32) (z2 : Addr) (z3 : Int32) : entryFrame m #[(.ref z0), (.int z1), (.ref z2), (.int z3)] 4 = mkF m 0 #[.val (.ref z0), .val (.int z1), .val (.ref z2), .val (.int z3)] [] := by first | (simp [entryFrame, mkF, argsToLocals, Value.category]; done) | rfl
theorem own_d2_0 : decode prog_19_method_1_code 0 = .ok (.aload_n 0, 1) := by decide +kernel
theorem own_d2_1 : decode prog_19_method_1_code 1 = .ok (.invokespecial 3, 3) := by decide +kernel
theorem own_pd0 : parseMethodDescriptor "()V" = some ⟨[], none⟩ := by decide +kernel
theorem own_d2_4 : decode prog_19_method_1_code 4 = .ok (.aload_n 0, 1) := by decide +kernel
theorem own_d2_5 : decode prog_19_method_1_code 5 = .ok (.iload_n 1, 1) := by decide +kernel
theorem own_d2_6 : decode prog_19_method_1_code 6 = .ok (.putfield 9, 3) := by decide +kernel
theorem own_d2_9 : decode prog_19_method_1_code 9 = .ok (.aload_n 0, 1) := by decide +kernel
theorem own_d2_10 : decode prog_19_method_1_code 10 = .ok (.aload_n 2, 1) := by decide +kernel
theorem own_d2_11 : decode prog_19_method_1_code 11 = .ok (.putfield 15, 3) := by decide +kernel
theorem own_d2_14 : decode prog_19_method_1_code 14 = .ok (.aload_n 0, 1) := by decide +kernel
theorem own_d2_15 : decode prog_19_method_1_code 15 = .ok (.iload_n 3, 1) := by decide +kernel
theorem own_d2_16 : decode prog_19_method_1_code 16 = .ok (.putfield 19, 3) := by decide +kernel
theorem own_d2_19 : decode prog_19_method_1_code 19 = .ok (.return_, 1) := by decide +kernel
set_option maxRecDepth 65536 in
set_option maxHeartbeats 4000000 in
theorem rm2 (l : Launch) (Z : State) (a0 : Array Value) (hw : ∀ d ∈ tables_1, d.before a0 Z = true) (b0 : Addr) (y1 : Int32) (b2 : Addr) (y3 : Int32) (h0 : Heap) (n0 : Nat) (Z0 : n0 ≤ h0.size) (E0 : Exa Z h0 b0 "com/example/austere_access/austereaccess/crypto/Der$Value") (F0 : Fld Z h0 b0 "com/example/austere_access/austereaccess/crypto/Der$Value" "tag" "I" (.int (0 : Int32))) (F1 : Fld Z h0 b0 "com/example/austere_access/austereaccess/crypto/Der$Value" "encoding" "[B" .null) (F2 : Fld Z h0 b0 "com/example/austere_access/austereaccess/crypto/Der$Value" "header" "I" (.int (0 : Int32))) (g0 : n0 ≤ b0) :
    OCon l Z (⟨"com/example/austere_access/austereaccess/crypto/Der$Value", "<init>", "(I[BI)V"⟩ : MethodName) prog_19_method_1_code 4 none [] ({ frames := 2, cells := 0, slots := 0, locals := 24 } : Room) #[(.ref b0), (.int y1), (.ref b2), (.int y3)] h0 n0 (QV fun h' => Exa Z h' b0 "com/example/austere_access/austereaccess/crypto/Der$Value" ∧ Fld Z h' b0 "com/example/austere_access/austereaccess/crypto/Der$Value" "encoding" "[B" (.ref b2) ∧ Fld Z h' b0 "com/example/austere_access/austereaccess/crypto/Der$Value" "header" "I" (.int y3) ∧ Keep h0 h' [b0]) := by
  refine OCon.mk (plainFor_of_name own_pn2) Z0 ?_
  intro p e s m below meth cd s₁ W0
  refine OF.cast (own_ef2 m b0 y1 b2 y3) ?_
  refine o_aloadN W0 own_d2_0 (v := (.ref b0)) rfl rfl (pc' := 1) rfl ?_
  refine o_callC W0 (rm3 l Z a0 hw b0 h0 n0 W0.le) rfl (ow hw 12 rfl) (ow hw 13 rfl) (ow hw 15 rfl) (ow hw 16 rfl) (by decide) (argsL := []) (S := []) (lenOf own_pd0 rfl) rfl rfl rfl (wt := 0) rfl (by decide) (by decide) (by decide) (by decide) (kk' := 0) rfl (nn' := 0) rfl own_d2_1 (pc' := 4) rfl ?_
  intro T2 h2 W2 q2 z2
  obtain rfl := q2
  refine o_aloadN W2 own_d2_4 (v := (.ref b0)) rfl rfl (pc' := 5) rfl ?_
  refine o_iloadN W2 own_d2_5 (v := y1) rfl (pc' := 6) rfl ?_
  refine o_putF W2 (ow hw 20 rfl) F0 E0 (Or.inr ⟨(ow hw 21 rfl), rfl, rfl⟩) (ow hw 7 rfl) (ty := .int) (by decide) (v' := (.int y1)) rfl rfl g0 own_d2_6 (pc' := 9) rfl ?_
  intro T3 h3 W3 R3
  have F_tag_b0_3 := F0.same R3
  have F_encoding_b0_3 := Fld.other R3 F1 (Or.inr (slot_ne (Or.inr (ow hw 23 rfl)) (Or.inr (ow hw 21 rfl)) (by decide) (t := (.array .byte)) (t' := .int) (by decide) (by decide)))
  have F_header_b0_3 := Fld.other R3 F2 (Or.inr (slot_ne (Or.inr (ow hw 25 rfl)) (Or.inr (ow hw 21 rfl)) (by decide) (t := .int) (t' := .int) (by decide) (by decide)))
  have X_b0_3 := Exa.wr R3 E0
  have K_3 := (Keep.refl h0 [b0]).wr R3 (Or.inl (by simp))
  refine o_aloadN W3 own_d2_9 (v := (.ref b0)) rfl rfl (pc' := 10) rfl ?_
  refine o_aloadN W3 own_d2_10 (v := (.ref b2)) rfl rfl (pc' := 11) rfl ?_
  refine o_putF W3 (ow hw 22 rfl) F_encoding_b0_3 X_b0_3 (Or.inr ⟨(ow hw 23 rfl), rfl, rfl⟩) (ow hw 7 rfl) (ty := (.array .byte)) (by decide) (v' := (.ref b2)) rfl rfl g0 own_d2_11 (pc' := 14) rfl ?_
  intro T4 h4 W4 R4
  have F_tag_b0_4 := Fld.other R4 F_tag_b0_3 (Or.inr (slot_ne (Or.inr (ow hw 21 rfl)) (Or.inr (ow hw 23 rfl)) (by decide) (t := .int) (t' := (.array .byte)) (by decide) (by decide)))
  have F_encoding_b0_4 := F_encoding_b0_3.same R4
  have F_header_b0_4 := Fld.other R4 F_header_b0_3 (Or.inr (slot_ne (Or.inr (ow hw 25 rfl)) (Or.inr (ow hw 23 rfl)) (by decide) (t := .int) (t' := (.array .byte)) (by decide) (by decide)))
  have X_b0_4 := Exa.wr R4 X_b0_3
  have K_4 := K_3.wr R4 (Or.inl (by simp))
  refine o_aloadN W4 own_d2_14 (v := (.ref b0)) rfl rfl (pc' := 15) rfl ?_
  refine o_iloadN W4 own_d2_15 (v := y3) rfl (pc' := 16) rfl ?_
  refine o_putF W4 (ow hw 24 rfl) F_header_b0_4 X_b0_4 (Or.inr ⟨(ow hw 25 rfl), rfl, rfl⟩) (ow hw 7 rfl) (ty := .int) (by decide) (v' := (.int y3)) rfl rfl g0 own_d2_16 (pc' := 19) rfl ?_
  intro T5 h5 W5 R5
  have F_tag_b0_5 := Fld.other R5 F_tag_b0_4 (Or.inr (slot_ne (Or.inr (ow hw 21 rfl)) (Or.inr (ow hw 25 rfl)) (by decide) (t := .int) (t' := .int) (by decide) (by decide)))
  have F_encoding_b0_5 := Fld.other R5 F_encoding_b0_4 (Or.inr (slot_ne (Or.inr (ow hw 23 rfl)) (Or.inr (ow hw 25 rfl)) (by decide) (t := (.array .byte)) (t' := .int) (by decide) (by decide)))
  have F_header_b0_5 := F_header_b0_4.same R5
  have X_b0_5 := Exa.wr R5 X_b0_4
  have K_5 := K_4.wr R5 (Or.inl (by simp))
  refine o_retV W5 rfl own_d2_19 (by decide) (by decide) ?_
  exact ⟨rfl, X_b0_5, F_encoding_b0_5, F_header_b0_5, K_5⟩
theorem own_pn3 : plainName "java/util/Arrays" = true := by first | (simp [plainName, overriddenIn]; done) | decide +kernel
theorem own_ef8 (m : MethodId) (z0 : Int32) (z1 : Int32) : entryFrame m #[(.int z0), (.int z1)] 2 = mkF m 0 #[.val (.int z0), .val (.int z1)] [] := by first | (simp [entryFrame, mkF, argsToLocals, Value.category]; done) | rfl
theorem own_d8_0 : decode jdk_65_method_131_code 0 = .ok (.iload_n 1, 1) := by decide +kernel
theorem own_d8_1 : decode jdk_65_method_131_code 1 = .ok (.iload_n 0, 1) := by decide +kernel
theorem own_d8_2 : decode jdk_65_method_131_code 2 = .ok (.if_icmp .ge 35, 3) := by decide +kernel
theorem own_d8_37 : decode jdk_65_method_131_code 37 = .ok (.return_, 1) := by decide +kernel
set_option maxRecDepth 65536 in
set_option maxHeartbeats 4000000 in
theorem rm8 (l : Launch) (Z : State) (a0 : Array Value) (hw : ∀ d ∈ tables_1, d.before a0 Z = true) (y0 : Int32) (y1 : Int32) (h0 : Heap) (n0 : Nat) (Z0 : n0 ≤ h0.size) (hle : y0.toInt ≤ y1.toInt) :
    OCon l Z (⟨"java/util/Arrays", "checkLength", "(II)V"⟩ : MethodName) jdk_65_method_131_code 2 none [] ({ frames := 0, cells := 0, slots := 0, locals := 0 } : Room) #[(.int y0), (.int y1)] h0 n0 (QV fun h' => h0 = h') := by
  refine OCon.mk (plainFor_of_name own_pn3) Z0 ?_
  intro p e s m below meth cd s₁ W0
  refine OF.cast (own_ef8 m y0 y1) ?_
  refine o_iloadN W0 own_d8_0 (v := y1) rfl (pc' := 1) rfl ?_
  refine o_iloadN W0 own_d8_1 (v := y0) rfl (pc' := 2) rfl ?_
  refine o_icmp_ge W0 own_d8_2 (by decide) (pq := 37) (by decide) (pc' := 5) rfl (fun hc2 => ?_) (fun hc2 => ?_)
  · refine o_retV W0 rfl own_d8_37 (by decide) (by decide) ?_
    exact ⟨rfl, rfl⟩
  · exfalso; omega
theorem own_ef9 (m : MethodId) (z0 : Int32) (z1 : Int32) : entryFrame m #[(.int z0), (.int z1)] 2 = mkF m 0 #[.val (.int z0), .val (.int z1)] [] := by first | (simp [entryFrame, mkF, argsToLocals, Value.category]; done) | rfl
theorem own_d9_0 : decode jdk_29_method_69_code 0 = .ok (.iload_n 0, 1) := by decide +kernel
theorem own_d9_1 : decode jdk_29_method_69_code 1 = .ok (.iload_n 1, 1) := by decide +kernel
theorem own_d9_2 : decode jdk_29_method_69_code 2 = .ok (.if_icmp .gt 7, 3) := by decide +kernel
theorem own_d9_9 : decode jdk_29_method_69_code 9 = .ok (.iload_n 1, 1) := by decide +kernel
theorem own_d9_10 : decode jdk_29_method_69_code 10 = .ok (.ireturn, 1) := by decide +kernel
theorem own_d9_5 : decode jdk_29_method_69_code 5 = .ok (.iload_n 0, 1) := by decide +kernel
theorem own_d9_6 : decode jdk_29_method_69_code 6 = .ok (.goto 4, 3) := by decide +kernel
set_option maxRecDepth 65536 in
set_option maxHeartbeats 4000000 in
theorem rm9 (l : Launch) (Z : State) (a0 : Array Value) (hw : ∀ d ∈ tables_1, d.before a0 Z = true) (y0 : Int32) (y1 : Int32) (h0 : Heap) (n0 : Nat) (Z0 : n0 ≤ h0.size) :
    OCon l Z (⟨"java/lang/Math", "min", "(II)I"⟩ : MethodName) jdk_29_method_69_code 2 (some .int) [] ({ frames := 0, cells := 0, slots := 0, locals := 0 } : Room) #[(.int y0), (.int y1)] h0 n0 (QI fun r h' => ((y0.toInt ≤ y1.toInt ∧ r = y0) ∨ (y1.toInt < y0.toInt ∧ r = y1)) ∧ h0 = h') := by
  refine OCon.mk (Jvm.Free.JP.mathPlain rfl (by decide +kernel)) Z0 ?_
  intro p e s m below meth cd s₁ W0
  refine OF.cast (own_ef9 m y0 y1) ?_
  refine o_iloadN W0 own_d9_0 (v := y0) rfl (pc' := 1) rfl ?_
  refine o_iloadN W0 own_d9_1 (v := y1) rfl (pc' := 2) rfl ?_
  refine o_icmp_gt W0 own_d9_2 (by decide) (pq := 9) (by decide) (pc' := 5) rfl (fun hc2 => ?_) (fun hc2 => ?_)
  · refine o_iloadN W0 own_d9_9 (v := y1) rfl (pc' := 10) rfl ?_
    refine o_retI W0 rfl own_d9_10 (by decide) (by decide) ?_
    exact ⟨_, rfl, Or.inr ⟨by omega, rfl⟩, rfl⟩
  · refine o_iloadN W0 own_d9_5 (v := y0) rfl (pc' := 6) rfl ?_
    refine o_goto W0 own_d9_6 (by decide) (pq := 10) (by decide) ?_
    refine o_retI W0 rfl own_d9_10 (by decide) (by decide) ?_
    exact ⟨_, rfl, Or.inl ⟨by omega, rfl⟩, rfl⟩
theorem own_ef6_0 (m : MethodId) (z0 : Addr) (z1 : Int32) (z2 : Int32) : entryFrame m #[(.ref z0), (.int z1), (.int z2)] 3 = mkF m 0 #[.val (.ref z0), .val (.int z1), .val (.int z2)] [] := by first | (simp [entryFrame, mkF, argsToLocals, Value.category]; done) | rfl
theorem own_d6_0 : decode jdk_65_method_132_code 0 = .ok (.iload_n 1, 1) := by decide +kernel
theorem own_d6_1 : decode jdk_65_method_132_code 1 = .ok (.ifCond .ne 9, 3) := by decide +kernel
theorem own_d6_4 : decode jdk_65_method_132_code 4 = .ok (.iload_n 2, 1) := by decide +kernel
theorem own_d6_5 : decode jdk_65_method_132_code 5 = .ok (.aload_n 0, 1) := by decide +kernel
theorem own_d6_6 : decode jdk_65_method_132_code 6 = .ok (.arraylength, 1) := by decide +kernel
theorem own_d6_7 : decode jdk_65_method_132_code 7 = .ok (.if_icmp .eq 10, 3) := by decide +kernel
theorem own_d6_17 : decode jdk_65_method_132_code 17 = .ok (.aload_n 0, 1) := by decide +kernel
theorem own_d6_18 : decode jdk_65_method_132_code 18 = .ok (.invokevirtual 310, 3) := by decide +kernel
theorem own_d6_21 : decode jdk_65_method_132_code 21 = .ok (.checkcast 311, 3) := by decide +kernel
theorem own_d6_24 : decode jdk_65_method_132_code 24 = .ok (.areturn, 1) := by decide +kernel
set_option maxRecDepth 65536 in
set_option maxHeartbeats 4000000 in
theorem rm6_0 (l : Launch) (Z : State) (a0 : Array Value) (hw : ∀ d ∈ tables_1, d.before a0 Z = true) (b1 : Addr) (h0 : Heap) (n0 : Nat) (Z0 : n0 ≤ h0.size) (u0 u1 u2 u3 : Int32) (A1 : OA Z h0 b1 .byte [u0, u1, u2, u3]) (X1 : Exa Z h0 b1 "[B") :
    OCon l Z (⟨"java/util/Arrays", "copyOfRange", "([BII)[B"⟩ : MethodName) jdk_65_method_132_code 3 (some (.array .byte)) [] ({ frames := 2, cells := 1, slots := 4, locals := 34 } : Room) #[(.ref b1), (.int (0 : Int32)), (.int (4 : Int32))] h0 n0 (QA fun r h' => r = h0.size ∧ Keep h0 h' [] ∧ OA Z h' r .byte [u0, u1, u2, u3]) := by
  refine OCon.mk (plainFor_of_name own_pn3) Z0 ?_
  intro p e s m below meth cd s₁ W0
  refine OF.cast (own_ef6_0 m b1 (0 : Int32) (4 : Int32)) ?_
  have c_0___Int32_ : (0 : Int32).toInt = 0 := rfl
  have c_4___Int32_ : (4 : Int32).toInt = 4 := rfl
  refine o_iloadN W0 own_d6_0 (v := (0 : Int32)) rfl (pc' := 1) rfl ?_
  refine o_if_ne W0 own_d6_1 (by decide) (pq := 10) (by decide) (pc' := 4) rfl (fun hc1 => ?_) (fun hc1 => ?_)
  · exact absurd hc1 (by decide)
  · refine o_iloadN W0 own_d6_4 (v := (4 : Int32)) rfl (pc' := 5) rfl ?_
    refine o_aloadN W0 own_d6_5 (v := (.ref b1)) rfl rfl (pc' := 6) rfl ?_
    refine o_arraylength W0 A1 own_d6_6 (pc' := 7) rfl ?_
    intro v6 hv6
    obtain rfl : v6 = (4 : Int32) := o_eq (y := (4 : Int32)) hv6
    refine o_icmp_eq W0 own_d6_7 (by decide) (pq := 17) (by decide) (pc' := 10) rfl (fun hc7 => ?_) (fun hc7 => ?_)
    · refine o_aloadN W0 own_d6_17 (v := (.ref b1)) rfl rfl (pc' := 18) rfl ?_
      refine o_clone W0 A1 X1 (ow hw 52 rfl) (ow hw 53 rfl) (ow hw 57 rfl) (ow hw 55 rfl) (ow hw 56 rfl) (ow hw 58 rfl) rfl (wt := 0) rfl (by decide) (by decide) (cap := 4) (Nat.le_of_ble_eq_true rfl) (by decide) (by decide) (kk' := 1) rfl (nn' := 4) rfl own_d6_18 (pc' := 21) rfl ?_
      intro T7 h7 ac W7 EE gac AC XC
      refine o_castY W7 (ow hw 59 rfl) XC own_d6_21 (pc' := 24) rfl ?_
      intro T8 W8
      refine o_retA W8 (t := (.array .byte)) rfl rfl rfl rfl own_d6_24 (by decide) (by decide) ?_
      exact ⟨_, rfl, gac, (Keep.refl h0 []).ext EE, AC⟩
    · exact absurd hc7 (by decide)
theorem own_ef5_0 (m : MethodId) (z0 : Addr) : entryFrame m #[(.ref z0)] 1 = mkF m 0 #[.val (.ref z0)] [] := by first | (simp [entryFrame, mkF, argsToLocals, Value.category]; done) | rfl
theorem own_d5_0 : decode prog_19_method_2_code 0 = .ok (.aload_n 0, 1) := by decide +kernel
theorem own_d5_1 : decode prog_19_method_2_code 1 = .ok (.getfield 15, 3) := by decide +kernel
theorem own_d5_4 : decode prog_19_method_2_code 4 = .ok (.aload_n 0, 1) := by decide +kernel
theorem own_d5_5 : decode prog_19_method_2_code 5 = .ok (.getfield 19, 3) := by decide +kernel
theorem own_d5_8 : decode prog_19_method_2_code 8 = .ok (.aload_n 0, 1) := by decide +kernel
theorem own_d5_9 : decode prog_19_method_2_code 9 = .ok (.getfield 15, 3) := by decide +kernel
theorem own_d5_12 : decode prog_19_method_2_code 12 = .ok (.arraylength, 1) := by decide +kernel
theorem own_d5_13 : decode prog_19_method_2_code 13 = .ok (.invokestatic 22, 3) := by decide +kernel
theorem own_pd1 : parseMethodDescriptor "([BII)[B" = some ⟨[(.array .byte), .int, .int], some (.array .byte)⟩ := by decide +kernel
theorem own_d5_16 : decode prog_19_method_2_code 16 = .ok (.areturn, 1) := by decide +kernel
set_option maxRecDepth 65536 in
set_option maxHeartbeats 4000000 in
theorem rm5_0 (l : Launch) (Z : State) (a0 : Array Value) (hw : ∀ d ∈ tables_1, d.before a0 Z = true) (b0 : Addr) (h0 : Heap) (n0 : Nat) (Z0 : n0 ≤ h0.size) (b1 : Addr) (u0 u1 u2 u3 : Int32) (A1 : OA Z h0 b1 .byte [u0, u1, u2, u3]) (X1 : Exa Z h0 b1 "[B") (F1 : Fld Z h0 b0 "com/example/austere_access/austereaccess/crypto/Der$Value" "encoding" "[B" (.ref b1)) (F2 : Fld Z h0 b0 "com/example/austere_access/austereaccess/crypto/Der$Value" "header" "I" (.int (0 : Int32))) :
    OCon l Z (⟨"com/example/austere_access/austereaccess/crypto/Der$Value", "contents", "()[B"⟩ : MethodName) prog_19_method_2_code 1 (some (.array .byte)) [] ({ frames := 3, cells := 1, slots := 4, locals := 48 } : Room) #[(.ref b0)] h0 n0 (QA fun r h' => r = h0.size ∧ Keep h0 h' [] ∧ OA Z h' r .byte [u0, u1, u2, u3]) := by
  refine OCon.mk (plainFor_of_name own_pn2) Z0 ?_
  intro p e s m below meth cd s₁ W0
  refine OF.cast (own_ef5_0 m b0) ?_
  refine o_aloadN W0 own_d5_0 (v := (.ref b0)) rfl rfl (pc' := 1) rfl ?_
  refine o_getF W0 (ow hw 22 rfl) F1 own_d5_1 (pc' := 4) rfl ?_
  intro T9 W9
  refine o_aloadN W9 own_d5_4 (v := (.ref b0)) rfl rfl (pc' := 5) rfl ?_
  refine o_getF W9 (ow hw 24 rfl) F2 own_d5_5 (pc' := 8) rfl ?_
  intro T10 W10
  refine o_aloadN W10 own_d5_8 (v := (.ref b0)) rfl rfl (pc' := 9) rfl ?_
  refine o_getF W10 (ow hw 22 rfl) F1 own_d5_9 (pc' := 12) rfl ?_
  intro T11 W11
  refine o_arraylength W11 A1 own_d5_12 (pc' := 13) rfl ?_
  intro v12 hv12
  obtain rfl : v12 = (4 : Int32) := o_eq (y := (4 : Int32)) hv12
  refine o_callSA W11 (rm6_0 l Z a0 hw b1 h0 n0 W11.le u0 u1 u2 u3 A1 X1) (ow hw 31 rfl) (ow hw 32 rfl) (ow hw 33 rfl) (ow hw 34 rfl) (by decide) (argsL := [(.ref b1), (.int (0 : Int32)), (.int (4 : Int32))]) (S := []) (lenOf own_pd1 rfl) rfl rfl rfl (wt := 0) rfl (by decide) (by decide) (by decide) (by decide) (kk' := 1) rfl (nn' := 4) rfl own_d5_13 (pc' := 16) rfl ?_
  intro r13 T13 h13 W13 q13 z13
  refine o_retA W13 (t := (.array .byte)) rfl rfl rfl rfl own_d5_16 (by decide) (by decide) ?_
  exact ⟨_, rfl, q13⟩
theorem own_ef7_1 (m : MethodId) (z0 : Addr) (z1 : Int32) (z2 : Int32) : entryFrame m #[(.ref z0), (.int z1), (.int z2)] 5 = mkF m 0 #[.val (.ref z0), .val (.int z1), .val (.int z2), .unset, .unset] [] := by first | (simp [entryFrame, mkF, argsToLocals, Value.category]; done) | rfl
theorem own_d7_0 : decode jdk_65_method_133_code 0 = .ok (.iload_n 1, 1) := by decide +kernel
theorem own_d7_1 : decode jdk_65_method_133_code 1 = .ok (.iload_n 2, 1) := by decide +kernel
theorem own_d7_2 : decode jdk_65_method_133_code 2 = .ok (.invokestatic 343, 3) := by decide +kernel
theorem own_pd2 : parseMethodDescriptor "(II)V" = some ⟨[.int, .int], none⟩ := by decide +kernel
theorem own_d7_5 : decode jdk_65_method_133_code 5 = .ok (.iload_n 2, 1) := by decide +kernel
theorem own_d7_6 : decode jdk_65_method_133_code 6 = .ok (.iload_n 1, 1) := by decide +kernel
theorem own_d7_7 : decode jdk_65_method_133_code 7 = .ok (.isub, 1) := by decide +kernel
theorem own_d7_8 : decode jdk_65_method_133_code 8 = .ok (.istore_n 3, 1) := by decide +kernel
theorem own_d7_9 : decode jdk_65_method_133_code 9 = .ok (.iload_n 3, 1) := by decide +kernel
theorem own_d7_10 : decode jdk_65_method_133_code 10 = .ok (.newarray .byte, 2) := by decide +kernel
theorem own_d7_12 : decode jdk_65_method_133_code 12 = .ok (.astore 4, 2) := by decide +kernel
theorem own_d7_14 : decode jdk_65_method_133_code 14 = .ok (.aload_n 0, 1) := by decide +kernel
theorem own_d7_15 : decode jdk_65_method_133_code 15 = .ok (.iload_n 1, 1) := by decide +kernel
theorem own_d7_16 : decode jdk_65_method_133_code 16 = .ok (.aload 4, 2) := by decide +kernel
theorem own_d7_18 : decode jdk_65_method_133_code 18 = .ok (.iconst 0, 1) := by decide +kernel
theorem own_d7_19 : decode jdk_65_method_133_code 19 = .ok (.aload_n 0, 1) := by decide +kernel
theorem own_d7_20 : decode jdk_65_method_133_code 20 = .ok (.arraylength, 1) := by decide +kernel
theorem own_d7_21 : decode jdk_65_method_133_code 21 = .ok (.iload_n 1, 1) := by decide +kernel
theorem own_d7_22 : decode jdk_65_method_133_code 22 = .ok (.isub, 1) := by decide +kernel
theorem own_d7_23 : decode jdk_65_method_133_code 23 = .ok (.iload_n 3, 1) := by decide +kernel
theorem own_d7_24 : decode jdk_65_method_133_code 24 = .ok (.invokestatic 304, 3) := by decide +kernel
theorem own_pd3 : parseMethodDescriptor "(II)I" = some ⟨[.int, .int], some .int⟩ := by decide +kernel
theorem own_d7_27 : decode jdk_65_method_133_code 27 = .ok (.invokestatic 150, 3) := by decide +kernel
theorem own_d7_30 : decode jdk_65_method_133_code 30 = .ok (.aload 4, 2) := by decide +kernel
theorem own_d7_32 : decode jdk_65_method_133_code 32 = .ok (.areturn, 1) := by decide +kernel
set_option maxRecDepth 65536 in
set_option maxHeartbeats 4000000 in
theorem rm7_1 (l : Launch) (Z : State) (a0 : Array Value) (hw : ∀ d ∈ tables_1, d.before a0 Z = true) (b1 : Addr) (h0 : Heap) (n0 : Nat) (Z0 : n0 ≤ h0.size) (u0 u1 u2 u3 : Int32) (A1 : OA Z h0 b1 .byte [u0, u1, u2, u3]) (X1 : Exa Z h0 b1 "[B") :
    OCon l Z (⟨"java/util/Arrays", "copyOfRangeByte", "([BII)[B"⟩ : MethodName) jdk_65_method_133_code 5 (some (.array .byte)) [] ({ frames := 1, cells := 1, slots := 3, locals := 18 } : Room) #[(.ref b1), (.int (1 : Int32)), (.int (4 : Int32))] h0 n0 (QA fun r h' => r = h0.size ∧ Keep h0 h' [] ∧ OA Z h' r .byte [u1, u2, u3]) := by
  refine OCon.mk (plainFor_of_name own_pn3) Z0 ?_
  intro p e s m below meth cd s₁ W0
  refine OF.cast (own_ef7_1 m b1 (1 : Int32) (4 : Int32)) ?_
  refine o_iloadN W0 own_d7_0 (v := (1 : Int32)) rfl (pc' := 1) rfl ?_
  refine o_iloadN W0 own_d7_1 (v := (4 : Int32)) rfl (pc' := 2) rfl ?_
  refine o_callS W0 (rm8 l Z a0 hw (1 : Int32) (4 : Int32) h0 n0 W0.le (by decide)) (ow hw 38 rfl) (ow hw 39 rfl) (ow hw 33 rfl) (ow hw 40 rfl) (by decide) (argsL := [(.int (1 : Int32)), (.int (4 : Int32))]) (S := []) (lenOf own_pd2 rfl) rfl rfl rfl (wt := 0) rfl (by decide) (by decide) (by decide) (by decide) (kk' := 0) rfl (nn' := 0) rfl own_d7_2 (pc' := 5) rfl ?_
  intro r14 T14 h14 W14 q14 z14
  obtain ⟨rfl, q14⟩ := q14
  show OF _ _ _ _ _ _ _ T14 (mkF m 5 #[.val (.ref b1), .val (.int (1 : Int32)), .val (.int (4 : Int32)), .unset, .unset] [])
  obtain rfl := q14
  refine o_iloadN W14 own_d7_5 (v := (4 : Int32)) rfl (pc' := 6) rfl ?_
  refine o_iloadN W14 own_d7_6 (v := (1 : Int32)) rfl (pc' := 7) rfl ?_
  refine o_isub W14 own_d7_7 (pc' := 8) rfl ?_
  show OF _ _ _ _ _ _ _ T14 (mkF m 8 #[.val (.ref b1), .val (.int (1 : Int32)), .val (.int (4 : Int32)), .unset, .unset] [(.int (3 : Int32))])
  refine o_istoreN W14 (L' := #[.val (.ref b1), .val (.int (1 : Int32)), .val (.int (4 : Int32)), .val (.int (3 : Int32)), .unset]) own_d7_8 rfl (pc' := 9) rfl ?_
  refine o_iloadN W14 own_d7_9 (v := (3 : Int32)) rfl (pc' := 10) rfl ?_
  refine o_newarray W14 (ty := .byte) (len := 3) (cap := 3) (ow hw 0 rfl) rfl rfl rfl own_d7_10 (pc' := 12) rfl rfl (by decide) (by decide) (by decide) (by decide) (kk' := 1) rfl (nn' := 3) rfl ?_
  intro T16 h16 a15 W16 E16 g_a15 A_a15
  have b_a15 : n0 ≤ a15 := by rw [g_a15]; exact W14.le
  have ne_b1_a15 : b1 ≠ a15 := Nat.ne_of_lt (Nat.lt_of_lt_of_le A1.lt (Nat.le_of_eq g_a15.symm))
  have A_b1_16 := A1.ext E16
  have A_a15 : OA Z h16 a15 .byte [0, 0, 0] := A_a15
  have EE := E16
  refine o_astore W16 (L' := #[.val (.ref b1), .val (.int (1 : Int32)), .val (.int (4 : Int32)), .val (.int (3 : Int32)), .val (.ref a15)]) own_d7_12 rfl rfl (pc' := 14) rfl ?_
  refine o_aloadN W16 own_d7_14 (v := (.ref b1)) rfl rfl (pc' := 15) rfl ?_
  refine o_iloadN W16 own_d7_15 (v := (1 : Int32)) rfl (pc' := 16) rfl ?_
  refine o_aload W16 own_d7_16 (v := (.ref a15)) rfl rfl (pc' := 18) rfl ?_
  refine o_iconst W16 (v := (0 : Int32)) own_d7_18 rfl (pc' := 19) rfl ?_
  refine o_aloadN W16 own_d7_19 (v := (.ref b1)) rfl rfl (pc' := 20) rfl ?_
  refine o_arraylength W16 A_b1_16 own_d7_20 (pc' := 21) rfl ?_
  intro v17 hv17
  obtain rfl : v17 = (4 : Int32) := o_eq (y := (4 : Int32)) hv17
  refine o_iloadN W16 own_d7_21 (v := (1 : Int32)) rfl (pc' := 22) rfl ?_
  refine o_isub W16 own_d7_22 (pc' := 23) rfl ?_
  show OF _ _ _ _ _ _ _ T16 (mkF m 23 #[.val (.ref b1), .val (.int (1 : Int32)), .val (.int (4 : Int32)), .val (.int (3 : Int32)), .val (.ref a15)] [(.int (3 : Int32)), (.int (0 : Int32)), (.ref a15), (.int (1 : Int32)), (.ref b1)])
  refine o_iloadN W16 own_d7_23 (v := (3 : Int32)) rfl (pc' := 24) rfl ?_
  refine o_callSI W16 (rm9 l Z a0 hw (3 : Int32) (3 : Int32) h16 n0 W16.le) (ow hw 41 rfl) (ow hw 42 rfl) (ow hw 43 rfl) (ow hw 44 rfl) (by decide) (argsL := [(.int (3 : Int32)), (.int (3 : Int32))]) (S := [(.int (0 : Int32)), (.ref a15), (.int (1 : Int32)), (.ref b1)]) (lenOf own_pd3 rfl) rfl rfl rfl (wt := 4) rfl (by decide) (by decide) (by decide) (by decide) (kk' := 1) rfl (nn' := 3) rfl own_d7_24 (pc' := 27) rfl ?_
  intro r18 T18 h18 W18 q18 z18
  obtain ⟨q18, rfl⟩ := q18
  obtain rfl : r18 = (3 : Int32) := by
    rcases q18 with ⟨_, q⟩ | ⟨_, q⟩ <;> exact q
  refine o_arraycopy W18 A_b1_16 A_a15 rfl b_a15 (ow hw 45 rfl) (ow hw 48 rfl) (ow hw 46 rfl) (ow hw 47 rfl) (i := 1) (j := 0) (n := 3) rfl rfl rfl (Nat.le_of_ble_eq_true rfl) (Nat.le_of_ble_eq_true rfl) (us := [u1, u2, u3]) (zs := [u1, u2, u3]) rfl rfl rfl (wt := 0) rfl (by decide) (by decide) own_d7_27 (pc' := 30) rfl ?_
  intro T19 h19 W19 K19 A19
  refine o_aload W19 own_d7_30 (v := (.ref a15)) rfl rfl (pc' := 32) rfl ?_
  refine o_retA W19 (t := (.array .byte)) rfl rfl rfl rfl own_d7_32 (by decide) (by decide) ?_
  refine ⟨_, rfl, g_a15, ((Keep.refl h0 []).ext EE).trans K19 (fun x hx => Or.inr (by simp only [List.mem_singleton] at hx; rw [hx, g_a15]; exact Nat.le_refl _)), A19⟩
theorem own_ef6_1 (m : MethodId) (z0 : Addr) (z1 : Int32) (z2 : Int32) : entryFrame m #[(.ref z0), (.int z1), (.int z2)] 3 = mkF m 0 #[.val (.ref z0), .val (.int z1), .val (.int z2)] [] := by first | (simp [entryFrame, mkF, argsToLocals, Value.category]; done) | rfl
theorem own_d6_10 : decode jdk_65_method_132_code 10 = .ok (.aload_n 0, 1) := by decide +kernel
theorem own_d6_11 : decode jdk_65_method_132_code 11 = .ok (.iload_n 1, 1) := by decide +kernel
theorem own_d6_12 : decode jdk_65_method_132_code 12 = .ok (.iload_n 2, 1) := by decide +kernel
theorem own_d6_13 : decode jdk_65_method_132_code 13 = .ok (.invokestatic 339, 3) := by decide +kernel
theorem own_d6_16 : decode jdk_65_method_132_code 16 = .ok (.areturn, 1) := by decide +kernel
set_option maxRecDepth 65536 in
set_option maxHeartbeats 4000000 in
theorem rm6_1 (l : Launch) (Z : State) (a0 : Array Value) (hw : ∀ d ∈ tables_1, d.before a0 Z = true) (b1 : Addr) (h0 : Heap) (n0 : Nat) (Z0 : n0 ≤ h0.size) (u0 u1 u2 u3 : Int32) (A1 : OA Z h0 b1 .byte [u0, u1, u2, u3]) (X1 : Exa Z h0 b1 "[B") :
    OCon l Z (⟨"java/util/Arrays", "copyOfRange", "([BII)[B"⟩ : MethodName) jdk_65_method_132_code 3 (some (.array .byte)) [] ({ frames := 2, cells := 1, slots := 3, locals := 34 } : Room) #[(.ref b1), (.int (1 : Int32)), (.int (4 : Int32))] h0 n0 (QA fun r h' => r = h0.size ∧ Keep h0 h' [] ∧ OA Z h' r .byte [u1, u2, u3]) := by
  refine OCon.mk (plainFor_of_name own_pn3) Z0 ?_
  intro p e s m below meth cd s₁ W0
  refine OF.cast (own_ef6_1 m b1 (1 : Int32) (4 : Int32)) ?_
  have c_1___Int32_ : (1 : Int32).toInt = 1 := rfl
  refine o_iloadN W0 own_d6_0 (v := (1 : Int32)) rfl (pc' := 1) rfl ?_
  refine o_if_ne W0 own_d6_1 (by decide) (pq := 10) (by decide) (pc' := 4) rfl (fun hc1 => ?_) (fun hc1 => ?_)
  · refine o_aloadN W0 own_d6_10 (v := (.ref b1)) rfl rfl (pc' := 11) rfl ?_
    refine o_iloadN W0 own_d6_11 (v := (1 : Int32)) rfl (pc' := 12) rfl ?_
    refine o_iloadN W0 own_d6_12 (v := (4 : Int32)) rfl (pc' := 13) rfl ?_
    refine o_callSA W0 (rm7_1 l Z a0 hw b1 h0 n0 W0.le u0 u1 u2 u3 A1 X1) (ow hw 35 rfl) (ow hw 36 rfl) (ow hw 33 rfl) (ow hw 37 rfl) (by decide) (argsL := [(.ref b1), (.int (1 : Int32)), (.int (4 : Int32))]) (S := []) (lenOf own_pd1 rfl) rfl rfl rfl (wt := 0) rfl (by decide) (by decide) (by decide) (by decide) (kk' := 1) rfl (nn' := 3) rfl own_d6_13 (pc' := 16) rfl ?_
    intro r20 T20 h20 W20 q20 z20
    refine o_retA W20 (t := (.array .byte)) rfl rfl rfl rfl own_d6_16 (by decide) (by decide) ?_
    exact ⟨_, rfl, q20⟩
  · exact absurd hc1 (by decide)
theorem own_ef5_1 (m : MethodId) (z0 : Addr) : entryFrame m #[(.ref z0)] 1 = mkF m 0 #[.val (.ref z0)] [] := by first | (simp [entryFrame, mkF, argsToLocals, Value.category]; done) | rfl
set_option maxRecDepth 65536 in
set_option maxHeartbeats 4000000 in
theorem rm5_1 (l : Launch) (Z : State) (a0 : Array Value) (hw : ∀ d ∈ tables_1, d.before a0 Z = true) (b0 : Addr) (h0 : Heap) (n0 : Nat) (Z0 : n0 ≤ h0.size) (b1 : Addr) (u0 u1 u2 u3 : Int32) (A1 : OA Z h0 b1 .byte [u0, u1, u2, u3]) (X1 : Exa Z h0 b1 "[B") (F1 : Fld Z h0 b0 "com/example/austere_access/austereaccess/crypto/Der$Value" "encoding" "[B" (.ref b1)) (F2 : Fld Z h0 b0 "com/example/austere_access/austereaccess/crypto/Der$Value" "header" "I" (.int (1 : Int32))) :
    OCon l Z (⟨"com/example/austere_access/austereaccess/crypto/Der$Value", "contents", "()[B"⟩ : MethodName) prog_19_method_2_code 1 (some (.array .byte)) [] ({ frames := 3, cells := 1, slots := 3, locals := 48 } : Room) #[(.ref b0)] h0 n0 (QA fun r h' => r = h0.size ∧ Keep h0 h' [] ∧ OA Z h' r .byte [u1, u2, u3]) := by
  refine OCon.mk (plainFor_of_name own_pn2) Z0 ?_
  intro p e s m below meth cd s₁ W0
  refine OF.cast (own_ef5_1 m b0) ?_
  refine o_aloadN W0 own_d5_0 (v := (.ref b0)) rfl rfl (pc' := 1) rfl ?_
  refine o_getF W0 (ow hw 22 rfl) F1 own_d5_1 (pc' := 4) rfl ?_
  intro T21 W21
  refine o_aloadN W21 own_d5_4 (v := (.ref b0)) rfl rfl (pc' := 5) rfl ?_
  refine o_getF W21 (ow hw 24 rfl) F2 own_d5_5 (pc' := 8) rfl ?_
  intro T22 W22
  refine o_aloadN W22 own_d5_8 (v := (.ref b0)) rfl rfl (pc' := 9) rfl ?_
  refine o_getF W22 (ow hw 22 rfl) F1 own_d5_9 (pc' := 12) rfl ?_
  intro T23 W23
  refine o_arraylength W23 A1 own_d5_12 (pc' := 13) rfl ?_
  intro v24 hv24
  obtain rfl : v24 = (4 : Int32) := o_eq (y := (4 : Int32)) hv24
  refine o_callSA W23 (rm6_1 l Z a0 hw b1 h0 n0 W23.le u0 u1 u2 u3 A1 X1) (ow hw 31 rfl) (ow hw 32 rfl) (ow hw 33 rfl) (ow hw 34 rfl) (by decide) (argsL := [(.ref b1), (.int (1 : Int32)), (.int (4 : Int32))]) (S := []) (lenOf own_pd1 rfl) rfl rfl rfl (wt := 0) rfl (by decide) (by decide) (by decide) (by decide) (kk' := 1) rfl (nn' := 3) rfl own_d5_13 (pc' := 16) rfl ?_
  intro r25 T25 h25 W25 q25 z25
  refine o_retA W25 (t := (.array .byte)) rfl rfl rfl rfl own_d5_16 (by decide) (by decide) ?_
  exact ⟨_, rfl, q25⟩
theorem own_ef7_2 (m : MethodId) (z0 : Addr) (z1 : Int32) (z2 : Int32) : entryFrame m #[(.ref z0), (.int z1), (.int z2)] 5 = mkF m 0 #[.val (.ref z0), .val (.int z1), .val (.int z2), .unset, .unset] [] := by first | (simp [entryFrame, mkF, argsToLocals, Value.category]; done) | rfl
set_option maxRecDepth 65536 in
set_option maxHeartbeats 4000000 in
theorem rm7_2 (l : Launch) (Z : State) (a0 : Array Value) (hw : ∀ d ∈ tables_1, d.before a0 Z = true) (b1 : Addr) (h0 : Heap) (n0 : Nat) (Z0 : n0 ≤ h0.size) (u0 u1 u2 u3 : Int32) (A1 : OA Z h0 b1 .byte [u0, u1, u2, u3]) (X1 : Exa Z h0 b1 "[B") :
    OCon l Z (⟨"java/util/Arrays", "copyOfRangeByte", "([BII)[B"⟩ : MethodName) jdk_65_method_133_code 5 (some (.array .byte)) [] ({ frames := 1, cells := 1, slots := 2, locals := 18 } : Room) #[(.ref b1), (.int (2 : Int32)), (.int (4 : Int32))] h0 n0 (QA fun r h' => r = h0.size ∧ Keep h0 h' [] ∧ OA Z h' r .byte [u2, u3]) := by
  refine OCon.mk (plainFor_of_name own_pn3) Z0 ?_
  intro p e s m below meth cd s₁ W0
  refine OF.cast (own_ef7_2 m b1 (2 : Int32) (4 : Int32)) ?_
  refine o_iloadN W0 own_d7_0 (v := (2 : Int32)) rfl (pc' := 1) rfl ?_
  refine o_iloadN W0 own_d7_1 (v := (4 : Int32)) rfl (pc' := 2) rfl ?_
  refine o_callS W0 (rm8 l Z a0 hw (2 : Int32) (4 : Int32) h0 n0 W0.le (by decide)) (ow hw 38 rfl) (ow hw 39 rfl) (ow hw 33 rfl) (ow hw 40 rfl) (by decide) (argsL := [(.int (2 : Int32)), (.int (4 : Int32))]) (S := []) (lenOf own_pd2 rfl) rfl rfl rfl (wt := 0) rfl (by decide) (by decide) (by decide) (by decide) (kk' := 0) rfl (nn' := 0) rfl own_d7_2 (pc' := 5) rfl ?_
  intro r26 T26 h26 W26 q26 z26
  obtain ⟨rfl, q26⟩ := q26
  show OF _ _ _ _ _ _ _ T26 (mkF m 5 #[.val (.ref b1), .val (.int (2 : Int32)), .val (.int (4 : Int32)), .unset, .unset] [])
  obtain rfl := q26
  refine o_iloadN W26 own_d7_5 (v := (4 : Int32)) rfl (pc' := 6) rfl ?_
  refine o_iloadN W26 own_d7_6 (v := (2 : Int32)) rfl (pc' := 7) rfl ?_
  refine o_isub W26 own_d7_7 (pc' := 8) rfl ?_
  show OF _ _ _ _ _ _ _ T26 (mkF m 8 #[.val (.ref b1), .val (.int (2 : Int32)), .val (.int (4 : Int32)), .unset, .unset] [(.int (2 : Int32))])
  refine o_istoreN W26 (L' := #[.val (.ref b1), .val (.int (2 : Int32)), .val (.int (4 : Int32)), .val (.int (2 : Int32)), .unset]) own_d7_8 rfl (pc' := 9) rfl ?_
  refine o_iloadN W26 own_d7_9 (v := (2 : Int32)) rfl (pc' := 10) rfl ?_
  refine o_newarray W26 (ty := .byte) (len := 2) (cap := 2) (ow hw 0 rfl) rfl rfl rfl own_d7_10 (pc' := 12) rfl rfl (by decide) (by decide) (by decide) (by decide) (kk' := 1) rfl (nn' := 2) rfl ?_
  intro T28 h28 a27 W28 E28 g_a27 A_a27
  have b_a27 : n0 ≤ a27 := by rw [g_a27]; exact W26.le
  have ne_b1_a27 : b1 ≠ a27 := Nat.ne_of_lt (Nat.lt_of_lt_of_le A1.lt (Nat.le_of_eq g_a27.symm))
  have A_b1_28 := A1.ext E28
  have A_a27 : OA Z h28 a27 .byte [0, 0] := A_a27
  have EE := E28
  refine o_astore W28 (L' := #[.val (.ref b1), .val (.int (2 : Int32)), .val (.int (4 : Int32)), .val (.int (2 : Int32)), .val (.ref a27)]) own_d7_12 rfl rfl (pc' := 14) rfl ?_
  refine o_aloadN W28 own_d7_14 (v := (.ref b1)) rfl rfl (pc' := 15) rfl ?_
  refine o_iloadN W28 own_d7_15 (v := (2 : Int32)) rfl (pc' := 16) rfl ?_
  refine o_aload W28 own_d7_16 (v := (.ref a27)) rfl rfl (pc' := 18) rfl ?_
  refine o_iconst W28 (v := (0 : Int32)) own_d7_18 rfl (pc' := 19) rfl ?_
  refine o_aloadN W28 own_d7_19 (v := (.ref b1)) rfl rfl (pc' := 20) rfl ?_
  refine o_arraylength W28 A_b1_28 own_d7_20 (pc' := 21) rfl ?_
  intro v29 hv29
  obtain rfl : v29 = (4 : Int32) := o_eq (y := (4 : Int32)) hv29
  refine o_iloadN W28 own_d7_21 (v := (2 : Int32)) rfl (pc' := 22) rfl ?_
  refine o_isub W28 own_d7_22 (pc' := 23) rfl ?_
  show OF _ _ _ _ _ _ _ T28 (mkF m 23 #[.val (.ref b1), .val (.int (2 : Int32)), .val (.int (4 : Int32)), .val (.int (2 : Int32)), .val (.ref a27)] [(.int (2 : Int32)), (.int (0 : Int32)), (.ref a27), (.int (2 : Int32)), (.ref b1)])
  refine o_iloadN W28 own_d7_23 (v := (2 : Int32)) rfl (pc' := 24) rfl ?_
  refine o_callSI W28 (rm9 l Z a0 hw (2 : Int32) (2 : Int32) h28 n0 W28.le) (ow hw 41 rfl) (ow hw 42 rfl) (ow hw 43 rfl) (ow hw 44 rfl) (by decide) (argsL := [(.int (2 : Int32)), (.int (2 : Int32))]) (S := [(.int (0 : Int32)), (.ref a27), (.int (2 : Int32)), (.ref b1)]) (lenOf own_pd3 rfl) rfl rfl rfl (wt := 4) rfl (by decide) (by decide) (by decide) (by decide) (kk' := 1) rfl (nn' := 2) rfl own_d7_24 (pc' := 27) rfl ?_
  intro r30 T30 h30 W30 q30 z30
  obtain ⟨q30, rfl⟩ := q30
  obtain rfl : r30 = (2 : Int32) := by
    rcases q30 with ⟨_, q⟩ | ⟨_, q⟩ <;> exact q
  refine o_arraycopy W30 A_b1_28 A_a27 rfl b_a27 (ow hw 45 rfl) (ow hw 48 rfl) (ow hw 46 rfl) (ow hw 47 rfl) (i := 2) (j := 0) (n := 2) rfl rfl rfl (Nat.le_of_ble_eq_true rfl) (Nat.le_of_ble_eq_true rfl) (us := [u2, u3]) (zs := [u2, u3]) rfl rfl rfl (wt := 0) rfl (by decide) (by decide) own_d7_27 (pc' := 30) rfl ?_
  intro T31 h31 W31 K31 A31
  refine o_aload W31 own_d7_30 (v := (.ref a27)) rfl rfl (pc' := 32) rfl ?_
  refine o_retA W31 (t := (.array .byte)) rfl rfl rfl rfl own_d7_32 (by decide) (by decide) ?_
  refine ⟨_, rfl, g_a27, ((Keep.refl h0 []).ext EE).trans K31 (fun x hx => Or.inr (by simp only [List.mem_singleton] at hx; rw [hx, g_a27]; exact Nat.le_refl _)), A31⟩
theorem own_ef6_2 (m : MethodId) (z0 : Addr) (z1 : Int32) (z2 : Int32) : entryFrame m #[(.ref z0), (.int z1), (.int z2)] 3 = mkF m 0 #[.val (.ref z0), .val (.int z1), .val (.int z2)] [] := by first | (simp [entryFrame, mkF, argsToLocals, Value.category]; done) | rfl
set_option maxRecDepth 65536 in
set_option maxHeartbeats 4000000 in
theorem rm6_2 (l : Launch) (Z : State) (a0 : Array Value) (hw : ∀ d ∈ tables_1, d.before a0 Z = true) (b1 : Addr) (h0 : Heap) (n0 : Nat) (Z0 : n0 ≤ h0.size) (u0 u1 u2 u3 : Int32) (A1 : OA Z h0 b1 .byte [u0, u1, u2, u3]) (X1 : Exa Z h0 b1 "[B") :
    OCon l Z (⟨"java/util/Arrays", "copyOfRange", "([BII)[B"⟩ : MethodName) jdk_65_method_132_code 3 (some (.array .byte)) [] ({ frames := 2, cells := 1, slots := 2, locals := 34 } : Room) #[(.ref b1), (.int (2 : Int32)), (.int (4 : Int32))] h0 n0 (QA fun r h' => r = h0.size ∧ Keep h0 h' [] ∧ OA Z h' r .byte [u2, u3]) := by
  refine OCon.mk (plainFor_of_name own_pn3) Z0 ?_
  intro p e s m below meth cd s₁ W0
  refine OF.cast (own_ef6_2 m b1 (2 : Int32) (4 : Int32)) ?_
  have c_2___Int32_ : (2 : Int32).toInt = 2 := rfl
  refine o_iloadN W0 own_d6_0 (v := (2 : Int32)) rfl (pc' := 1) rfl ?_
  refine o_if_ne W0 own_d6_1 (by decide) (pq := 10) (by decide) (pc' := 4) rfl (fun hc1 => ?_) (fun hc1 => ?_)
  · refine o_aloadN W0 own_d6_10 (v := (.ref b1)) rfl rfl (pc' := 11) rfl ?_
    refine o_iloadN W0 own_d6_11 (v := (2 : Int32)) rfl (pc' := 12) rfl ?_
    refine o_iloadN W0 own_d6_12 (v := (4 : Int32)) rfl (pc' := 13) rfl ?_
    refine o_callSA W0 (rm7_2 l Z a0 hw b1 h0 n0 W0.le u0 u1 u2 u3 A1 X1) (ow hw 35 rfl) (ow hw 36 rfl) (ow hw 33 rfl) (ow hw 37 rfl) (by decide) (argsL := [(.ref b1), (.int (2 : Int32)), (.int (4 : Int32))]) (S := []) (lenOf own_pd1 rfl) rfl rfl rfl (wt := 0) rfl (by decide) (by decide) (by decide) (by decide) (kk' := 1) rfl (nn' := 2) rfl own_d6_13 (pc' := 16) rfl ?_
    intro r32 T32 h32 W32 q32 z32
    refine o_retA W32 (t := (.array .byte)) rfl rfl rfl rfl own_d6_16 (by decide) (by decide) ?_
    exact ⟨_, rfl, q32⟩
  · exact absurd hc1 (by decide)
theorem own_ef5_2 (m : MethodId) (z0 : Addr) : entryFrame m #[(.ref z0)] 1 = mkF m 0 #[.val (.ref z0)] [] := by first | (simp [entryFrame, mkF, argsToLocals, Value.category]; done) | rfl
set_option maxRecDepth 65536 in
set_option maxHeartbeats 4000000 in
theorem rm5_2 (l : Launch) (Z : State) (a0 : Array Value) (hw : ∀ d ∈ tables_1, d.before a0 Z = true) (b0 : Addr) (h0 : Heap) (n0 : Nat) (Z0 : n0 ≤ h0.size) (b1 : Addr) (u0 u1 u2 u3 : Int32) (A1 : OA Z h0 b1 .byte [u0, u1, u2, u3]) (X1 : Exa Z h0 b1 "[B") (F1 : Fld Z h0 b0 "com/example/austere_access/austereaccess/crypto/Der$Value" "encoding" "[B" (.ref b1)) (F2 : Fld Z h0 b0 "com/example/austere_access/austereaccess/crypto/Der$Value" "header" "I" (.int (2 : Int32))) :
    OCon l Z (⟨"com/example/austere_access/austereaccess/crypto/Der$Value", "contents", "()[B"⟩ : MethodName) prog_19_method_2_code 1 (some (.array .byte)) [] ({ frames := 3, cells := 1, slots := 2, locals := 48 } : Room) #[(.ref b0)] h0 n0 (QA fun r h' => r = h0.size ∧ Keep h0 h' [] ∧ OA Z h' r .byte [u2, u3]) := by
  refine OCon.mk (plainFor_of_name own_pn2) Z0 ?_
  intro p e s m below meth cd s₁ W0
  refine OF.cast (own_ef5_2 m b0) ?_
  refine o_aloadN W0 own_d5_0 (v := (.ref b0)) rfl rfl (pc' := 1) rfl ?_
  refine o_getF W0 (ow hw 22 rfl) F1 own_d5_1 (pc' := 4) rfl ?_
  intro T33 W33
  refine o_aloadN W33 own_d5_4 (v := (.ref b0)) rfl rfl (pc' := 5) rfl ?_
  refine o_getF W33 (ow hw 24 rfl) F2 own_d5_5 (pc' := 8) rfl ?_
  intro T34 W34
  refine o_aloadN W34 own_d5_8 (v := (.ref b0)) rfl rfl (pc' := 9) rfl ?_
  refine o_getF W34 (ow hw 22 rfl) F1 own_d5_9 (pc' := 12) rfl ?_
  intro T35 W35
  refine o_arraylength W35 A1 own_d5_12 (pc' := 13) rfl ?_
  intro v36 hv36
  obtain rfl : v36 = (4 : Int32) := o_eq (y := (4 : Int32)) hv36
  refine o_callSA W35 (rm6_2 l Z a0 hw b1 h0 n0 W35.le u0 u1 u2 u3 A1 X1) (ow hw 31 rfl) (ow hw 32 rfl) (ow hw 33 rfl) (ow hw 34 rfl) (by decide) (argsL := [(.ref b1), (.int (2 : Int32)), (.int (4 : Int32))]) (S := []) (lenOf own_pd1 rfl) rfl rfl rfl (wt := 0) rfl (by decide) (by decide) (by decide) (by decide) (kk' := 1) rfl (nn' := 2) rfl own_d5_13 (pc' := 16) rfl ?_
  intro r37 T37 h37 W37 q37 z37
  refine o_retA W37 (t := (.array .byte)) rfl rfl rfl rfl own_d5_16 (by decide) (by decide) ?_
  exact ⟨_, rfl, q37⟩
theorem own_ef7_3 (m : MethodId) (z0 : Addr) (z1 : Int32) (z2 : Int32) : entryFrame m #[(.ref z0), (.int z1), (.int z2)] 5 = mkF m 0 #[.val (.ref z0), .val (.int z1), .val (.int z2), .unset, .unset] [] := by first | (simp [entryFrame, mkF, argsToLocals, Value.category]; done) | rfl
set_option maxRecDepth 65536 in
set_option maxHeartbeats 4000000 in
theorem rm7_3 (l : Launch) (Z : State) (a0 : Array Value) (hw : ∀ d ∈ tables_1, d.before a0 Z = true) (b1 : Addr) (h0 : Heap) (n0 : Nat) (Z0 : n0 ≤ h0.size) (u0 u1 u2 u3 : Int32) (A1 : OA Z h0 b1 .byte [u0, u1, u2, u3]) (X1 : Exa Z h0 b1 "[B") :
    OCon l Z (⟨"java/util/Arrays", "copyOfRangeByte", "([BII)[B"⟩ : MethodName) jdk_65_method_133_code 5 (some (.array .byte)) [] ({ frames := 1, cells := 1, slots := 1, locals := 18 } : Room) #[(.ref b1), (.int (3 : Int32)), (.int (4 : Int32))] h0 n0 (QA fun r h' => r = h0.size ∧ Keep h0 h' [] ∧ OA Z h' r .byte [u3]) := by
  refine OCon.mk (plainFor_of_name own_pn3) Z0 ?_
  intro p e s m below meth cd s₁ W0
  refine OF.cast (own_ef7_3 m b1 (3 : Int32) (4 : Int32)) ?_
  refine o_iloadN W0 own_d7_0 (v := (3 : Int32)) rfl (pc' := 1) rfl ?_
  refine o_iloadN W0 own_d7_1 (v := (4 : Int32)) rfl (pc' := 2) rfl ?_
  refine o_callS W0 (rm8 l Z a0 hw (3 : Int32) (4 : Int32) h0 n0 W0.le (by decide)) (ow hw 38 rfl) (ow hw 39 rfl) (ow hw 33 rfl) (ow hw 40 rfl) (by decide) (argsL := [(.int (3 : Int32)), (.int (4 : Int32))]) (S := []) (lenOf own_pd2 rfl) rfl rfl rfl (wt := 0) rfl (by decide) (by decide) (by decide) (by decide) (kk' := 0) rfl (nn' := 0) rfl own_d7_2 (pc' := 5) rfl ?_
  intro r38 T38 h38 W38 q38 z38
  obtain ⟨rfl, q38⟩ := q38
  show OF _ _ _ _ _ _ _ T38 (mkF m 5 #[.val (.ref b1), .val (.int (3 : Int32)), .val (.int (4 : Int32)), .unset, .unset] [])
  obtain rfl := q38
  refine o_iloadN W38 own_d7_5 (v := (4 : Int32)) rfl (pc' := 6) rfl ?_
  refine o_iloadN W38 own_d7_6 (v := (3 : Int32)) rfl (pc' := 7) rfl ?_
  refine o_isub W38 own_d7_7 (pc' := 8) rfl ?_
  show OF _ _ _ _ _ _ _ T38 (mkF m 8 #[.val (.ref b1), .val (.int (3 : Int32)), .val (.int (4 : Int32)), .unset, .unset] [(.int (1 : Int32))])
  refine o_istoreN W38 (L' := #[.val (.ref b1), .val (.int (3 : Int32)), .val (.int (4 : Int32)), .val (.int (1 : Int32)), .unset]) own_d7_8 rfl (pc' := 9) rfl ?_
  refine o_iloadN W38 own_d7_9 (v := (1 : Int32)) rfl (pc' := 10) rfl ?_
  refine o_newarray W38 (ty := .byte) (len := 1) (cap := 1) (ow hw 0 rfl) rfl rfl rfl own_d7_10 (pc' := 12) rfl rfl (by decide) (by decide) (by decide) (by decide) (kk' := 1) rfl (nn' := 1) rfl ?_
  intro T40 h40 a39 W40 E40 g_a39 A_a39
  have b_a39 : n0 ≤ a39 := by rw [g_a39]; exact W38.le
  have ne_b1_a39 : b1 ≠ a39 := Nat.ne_of_lt (Nat.lt_of_lt_of_le A1.lt (Nat.le_of_eq g_a39.symm))
  have A_b1_40 := A1.ext E40
  have A_a39 : OA Z h40 a39 .byte [0] := A_a39
  have EE := E40
  refine o_astore W40 (L' := #[.val (.ref b1), .val (.int (3 : Int32)), .val (.int (4 : Int32)), .val (.int (1 : Int32)), .val (.ref a39)]) own_d7_12 rfl rfl (pc' := 14) rfl ?_
  refine o_aloadN W40 own_d7_14 (v := (.ref b1)) rfl rfl (pc' := 15) rfl ?_
  refine o_iloadN W40 own_d7_15 (v := (3 : Int32)) rfl (pc' := 16) rfl ?_
  refine o_aload W40 own_d7_16 (v := (.ref a39)) rfl rfl (pc' := 18) rfl ?_
  refine o_iconst W40 (v := (0 : Int32)) own_d7_18 rfl (pc' := 19) rfl ?_
  refine o_aloadN W40 own_d7_19 (v := (.ref b1)) rfl rfl (pc' := 20) rfl ?_
  refine o_arraylength W40 A_b1_40 own_d7_20 (pc' := 21) rfl ?_
  intro v41 hv41
  obtain rfl : v41 = (4 : Int32) := o_eq (y := (4 : Int32)) hv41
  refine o_iloadN W40 own_d7_21 (v := (3 : Int32)) rfl (pc' := 22) rfl ?_
  refine o_isub W40 own_d7_22 (pc' := 23) rfl ?_
  show OF _ _ _ _ _ _ _ T40 (mkF m 23 #[.val (.ref b1), .val (.int (3 : Int32)), .val (.int (4 : Int32)), .val (.int (1 : Int32)), .val (.ref a39)] [(.int (1 : Int32)), (.int (0 : Int32)), (.ref a39), (.int (3 : Int32)), (.ref b1)])
  refine o_iloadN W40 own_d7_23 (v := (1 : Int32)) rfl (pc' := 24) rfl ?_
  refine o_callSI W40 (rm9 l Z a0 hw (1 : Int32) (1 : Int32) h40 n0 W40.le) (ow hw 41 rfl) (ow hw 42 rfl) (ow hw 43 rfl) (ow hw 44 rfl) (by decide) (argsL := [(.int (1 : Int32)), (.int (1 : Int32))]) (S := [(.int (0 : Int32)), (.ref a39), (.int (3 : Int32)), (.ref b1)]) (lenOf own_pd3 rfl) rfl rfl rfl (wt := 4) rfl (by decide) (by decide) (by decide) (by decide) (kk' := 1) rfl (nn' := 1) rfl own_d7_24 (pc' := 27) rfl ?_
  intro r42 T42 h42 W42 q42 z42
  obtain ⟨q42, rfl⟩ := q42
  obtain rfl : r42 = (1 : Int32) := by
    rcases q42 with ⟨_, q⟩ | ⟨_, q⟩ <;> exact q
  refine o_arraycopy W42 A_b1_40 A_a39 rfl b_a39 (ow hw 45 rfl) (ow hw 48 rfl) (ow hw 46 rfl) (ow hw 47 rfl) (i := 3) (j := 0) (n := 1) rfl rfl rfl (Nat.le_of_ble_eq_true rfl) (Nat.le_of_ble_eq_true rfl) (us := [u3]) (zs := [u3]) rfl rfl rfl (wt := 0) rfl (by decide) (by decide) own_d7_27 (pc' := 30) rfl ?_
  intro T43 h43 W43 K43 A43
  refine o_aload W43 own_d7_30 (v := (.ref a39)) rfl rfl (pc' := 32) rfl ?_
  refine o_retA W43 (t := (.array .byte)) rfl rfl rfl rfl own_d7_32 (by decide) (by decide) ?_
  refine ⟨_, rfl, g_a39, ((Keep.refl h0 []).ext EE).trans K43 (fun x hx => Or.inr (by simp only [List.mem_singleton] at hx; rw [hx, g_a39]; exact Nat.le_refl _)), A43⟩
theorem own_ef6_3 (m : MethodId) (z0 : Addr) (z1 : Int32) (z2 : Int32) : entryFrame m #[(.ref z0), (.int z1), (.int z2)] 3 = mkF m 0 #[.val (.ref z0), .val (.int z1), .val (.int z2)] [] := by first | (simp [entryFrame, mkF, argsToLocals, Value.category]; done) | rfl
set_option maxRecDepth 65536 in
set_option maxHeartbeats 4000000 in
theorem rm6_3 (l : Launch) (Z : State) (a0 : Array Value) (hw : ∀ d ∈ tables_1, d.before a0 Z = true) (b1 : Addr) (h0 : Heap) (n0 : Nat) (Z0 : n0 ≤ h0.size) (u0 u1 u2 u3 : Int32) (A1 : OA Z h0 b1 .byte [u0, u1, u2, u3]) (X1 : Exa Z h0 b1 "[B") :
    OCon l Z (⟨"java/util/Arrays", "copyOfRange", "([BII)[B"⟩ : MethodName) jdk_65_method_132_code 3 (some (.array .byte)) [] ({ frames := 2, cells := 1, slots := 1, locals := 34 } : Room) #[(.ref b1), (.int (3 : Int32)), (.int (4 : Int32))] h0 n0 (QA fun r h' => r = h0.size ∧ Keep h0 h' [] ∧ OA Z h' r .byte [u3]) := by
  refine OCon.mk (plainFor_of_name own_pn3) Z0 ?_
  intro p e s m below meth cd s₁ W0
  refine OF.cast (own_ef6_3 m b1 (3 : Int32) (4 : Int32)) ?_
  have c_3___Int32_ : (3 : Int32).toInt = 3 := rfl
  refine o_iloadN W0 own_d6_0 (v := (3 : Int32)) rfl (pc' := 1) rfl ?_
  refine o_if_ne W0 own_d6_1 (by decide) (pq := 10) (by decide) (pc' := 4) rfl (fun hc1 => ?_) (fun hc1 => ?_)
  · refine o_aloadN W0 own_d6_10 (v := (.ref b1)) rfl rfl (pc' := 11) rfl ?_
    refine o_iloadN W0 own_d6_11 (v := (3 : Int32)) rfl (pc' := 12) rfl ?_
    refine o_iloadN W0 own_d6_12 (v := (4 : Int32)) rfl (pc' := 13) rfl ?_
    refine o_callSA W0 (rm7_3 l Z a0 hw b1 h0 n0 W0.le u0 u1 u2 u3 A1 X1) (ow hw 35 rfl) (ow hw 36 rfl) (ow hw 33 rfl) (ow hw 37 rfl) (by decide) (argsL := [(.ref b1), (.int (3 : Int32)), (.int (4 : Int32))]) (S := []) (lenOf own_pd1 rfl) rfl rfl rfl (wt := 0) rfl (by decide) (by decide) (by decide) (by decide) (kk' := 1) rfl (nn' := 1) rfl own_d6_13 (pc' := 16) rfl ?_
    intro r44 T44 h44 W44 q44 z44
    refine o_retA W44 (t := (.array .byte)) rfl rfl rfl rfl own_d6_16 (by decide) (by decide) ?_
    exact ⟨_, rfl, q44⟩
  · exact absurd hc1 (by decide)
theorem own_ef5_3 (m : MethodId) (z0 : Addr) : entryFrame m #[(.ref z0)] 1 = mkF m 0 #[.val (.ref z0)] [] := by first | (simp [entryFrame, mkF, argsToLocals, Value.category]; done) | rfl
set_option maxRecDepth 65536 in
set_option maxHeartbeats 4000000 in
theorem rm5_3 (l : Launch) (Z : State) (a0 : Array Value) (hw : ∀ d ∈ tables_1, d.before a0 Z = true) (b0 : Addr) (h0 : Heap) (n0 : Nat) (Z0 : n0 ≤ h0.size) (b1 : Addr) (u0 u1 u2 u3 : Int32) (A1 : OA Z h0 b1 .byte [u0, u1, u2, u3]) (X1 : Exa Z h0 b1 "[B") (F1 : Fld Z h0 b0 "com/example/austere_access/austereaccess/crypto/Der$Value" "encoding" "[B" (.ref b1)) (F2 : Fld Z h0 b0 "com/example/austere_access/austereaccess/crypto/Der$Value" "header" "I" (.int (3 : Int32))) :
    OCon l Z (⟨"com/example/austere_access/austereaccess/crypto/Der$Value", "contents", "()[B"⟩ : MethodName) prog_19_method_2_code 1 (some (.array .byte)) [] ({ frames := 3, cells := 1, slots := 1, locals := 48 } : Room) #[(.ref b0)] h0 n0 (QA fun r h' => r = h0.size ∧ Keep h0 h' [] ∧ OA Z h' r .byte [u3]) := by
  refine OCon.mk (plainFor_of_name own_pn2) Z0 ?_
  intro p e s m below meth cd s₁ W0
  refine OF.cast (own_ef5_3 m b0) ?_
  refine o_aloadN W0 own_d5_0 (v := (.ref b0)) rfl rfl (pc' := 1) rfl ?_
  refine o_getF W0 (ow hw 22 rfl) F1 own_d5_1 (pc' := 4) rfl ?_
  intro T45 W45
  refine o_aloadN W45 own_d5_4 (v := (.ref b0)) rfl rfl (pc' := 5) rfl ?_
  refine o_getF W45 (ow hw 24 rfl) F2 own_d5_5 (pc' := 8) rfl ?_
  intro T46 W46
  refine o_aloadN W46 own_d5_8 (v := (.ref b0)) rfl rfl (pc' := 9) rfl ?_
  refine o_getF W46 (ow hw 22 rfl) F1 own_d5_9 (pc' := 12) rfl ?_
  intro T47 W47
  refine o_arraylength W47 A1 own_d5_12 (pc' := 13) rfl ?_
  intro v48 hv48
  obtain rfl : v48 = (4 : Int32) := o_eq (y := (4 : Int32)) hv48
  refine o_callSA W47 (rm6_3 l Z a0 hw b1 h0 n0 W47.le u0 u1 u2 u3 A1 X1) (ow hw 31 rfl) (ow hw 32 rfl) (ow hw 33 rfl) (ow hw 34 rfl) (by decide) (argsL := [(.ref b1), (.int (3 : Int32)), (.int (4 : Int32))]) (S := []) (lenOf own_pd1 rfl) rfl rfl rfl (wt := 0) rfl (by decide) (by decide) (by decide) (by decide) (kk' := 1) rfl (nn' := 1) rfl own_d5_13 (pc' := 16) rfl ?_
  intro r49 T49 h49 W49 q49 z49
  refine o_retA W49 (t := (.array .byte)) rfl rfl rfl rfl own_d5_16 (by decide) (by decide) ?_
  exact ⟨_, rfl, q49⟩
theorem own_ef7_4 (m : MethodId) (z0 : Addr) (z1 : Int32) (z2 : Int32) : entryFrame m #[(.ref z0), (.int z1), (.int z2)] 5 = mkF m 0 #[.val (.ref z0), .val (.int z1), .val (.int z2), .unset, .unset] [] := by first | (simp [entryFrame, mkF, argsToLocals, Value.category]; done) | rfl
set_option maxRecDepth 65536 in
set_option maxHeartbeats 4000000 in
theorem rm7_4 (l : Launch) (Z : State) (a0 : Array Value) (hw : ∀ d ∈ tables_1, d.before a0 Z = true) (b1 : Addr) (h0 : Heap) (n0 : Nat) (Z0 : n0 ≤ h0.size) (u0 u1 u2 u3 : Int32) (A1 : OA Z h0 b1 .byte [u0, u1, u2, u3]) (X1 : Exa Z h0 b1 "[B") :
    OCon l Z (⟨"java/util/Arrays", "copyOfRangeByte", "([BII)[B"⟩ : MethodName) jdk_65_method_133_code 5 (some (.array .byte)) [] ({ frames := 1, cells := 1, slots := 0, locals := 18 } : Room) #[(.ref b1), (.int (4 : Int32)), (.int (4 : Int32))] h0 n0 (QA fun r h' => r = h0.size ∧ Keep h0 h' [] ∧ OA Z h' r .byte []) := by
  refine OCon.mk (plainFor_of_name own_pn3) Z0 ?_
  intro p e s m below meth cd s₁ W0
  refine OF.cast (own_ef7_4 m b1 (4 : Int32) (4 : Int32)) ?_
  refine o_iloadN W0 own_d7_0 (v := (4 : Int32)) rfl (pc' := 1) rfl ?_
  refine o_iloadN W0 own_d7_1 (v := (4 : Int32)) rfl (pc' := 2) rfl ?_
  refine o_callS W0 (rm8 l Z a0 hw (4 : Int32) (4 : Int32) h0 n0 W0.le (by decide)) (ow hw 38 rfl) (ow hw 39 rfl) (ow hw 33 rfl) (ow hw 40 rfl) (by decide) (argsL := [(.int (4 : Int32)), (.int (4 : Int32))]) (S := []) (lenOf own_pd2 rfl) rfl rfl rfl (wt := 0) rfl (by decide) (by decide) (by decide) (by decide) (kk' := 0) rfl (nn' := 0) rfl own_d7_2 (pc' := 5) rfl ?_
  intro r50 T50 h50 W50 q50 z50
  obtain ⟨rfl, q50⟩ := q50
  show OF _ _ _ _ _ _ _ T50 (mkF m 5 #[.val (.ref b1), .val (.int (4 : Int32)), .val (.int (4 : Int32)), .unset, .unset] [])
  obtain rfl := q50
  refine o_iloadN W50 own_d7_5 (v := (4 : Int32)) rfl (pc' := 6) rfl ?_
  refine o_iloadN W50 own_d7_6 (v := (4 : Int32)) rfl (pc' := 7) rfl ?_
  refine o_isub W50 own_d7_7 (pc' := 8) rfl ?_
  show OF _ _ _ _ _ _ _ T50 (mkF m 8 #[.val (.ref b1), .val (.int (4 : Int32)), .val (.int (4 : Int32)), .unset, .unset] [(.int (0 : Int32))])
  refine o_istoreN W50 (L' := #[.val (.ref b1), .val (.int (4 : Int32)), .val (.int (4 : Int32)), .val (.int (0 : Int32)), .unset]) own_d7_8 rfl (pc' := 9) rfl ?_
  refine o_iloadN W50 own_d7_9 (v := (0 : Int32)) rfl (pc' := 10) rfl ?_
  refine o_newarray W50 (ty := .byte) (len := 0) (cap := 0) (ow hw 0 rfl) rfl rfl rfl own_d7_10 (pc' := 12) rfl rfl (by decide) (by decide) (by decide) (by decide) (kk' := 1) rfl (nn' := 0) rfl ?_
  intro T52 h52 a51 W52 E52 g_a51 A_a51
  have b_a51 : n0 ≤ a51 := by rw [g_a51]; exact W50.le
  have ne_b1_a51 : b1 ≠ a51 := Nat.ne_of_lt (Nat.lt_of_lt_of_le A1.lt (Nat.le_of_eq g_a51.symm))
  have A_b1_52 := A1.ext E52
  have A_a51 : OA Z h52 a51 .byte [] := A_a51
  have EE := E52
  refine o_astore W52 (L' := #[.val (.ref b1), .val (.int (4 : Int32)), .val (.int (4 : Int32)), .val (.int (0 : Int32)), .val (.ref a51)]) own_d7_12 rfl rfl (pc' := 14) rfl ?_
  refine o_aloadN W52 own_d7_14 (v := (.ref b1)) rfl rfl (pc' := 15) rfl ?_
  refine o_iloadN W52 own_d7_15 (v := (4 : Int32)) rfl (pc' := 16) rfl ?_
  refine o_aload W52 own_d7_16 (v := (.ref a51)) rfl rfl (pc' := 18) rfl ?_
  refine o_iconst W52 (v := (0 : Int32)) own_d7_18 rfl (pc' := 19) rfl ?_
  refine o_aloadN W52 own_d7_19 (v := (.ref b1)) rfl rfl (pc' := 20) rfl ?_
  refine o_arraylength W52 A_b1_52 own_d7_20 (pc' := 21) rfl ?_
  intro v53 hv53
  obtain rfl : v53 = (4 : Int32) := o_eq (y := (4 : Int32)) hv53
  refine o_iloadN W52 own_d7_21 (v := (4 : Int32)) rfl (pc' := 22) rfl ?_
  refine o_isub W52 own_d7_22 (pc' := 23) rfl ?_
  show OF _ _ _ _ _ _ _ T52 (mkF m 23 #[.val (.ref b1), .val (.int (4 : Int32)), .val (.int (4 : Int32)), .val (.int (0 : Int32)), .val (.ref a51)] [(.int (0 : Int32)), (.int (0 : Int32)), (.ref a51), (.int (4 : Int32)), (.ref b1)])
  refine o_iloadN W52 own_d7_23 (v := (0 : Int32)) rfl (pc' := 24) rfl ?_
  refine o_callSI W52 (rm9 l Z a0 hw (0 : Int32) (0 : Int32) h52 n0 W52.le) (ow hw 41 rfl) (ow hw 42 rfl) (ow hw 43 rfl) (ow hw 44 rfl) (by decide) (argsL := [(.int (0 : Int32)), (.int (0 : Int32))]) (S := [(.int (0 : Int32)), (.ref a51), (.int (4 : Int32)), (.ref b1)]) (lenOf own_pd3 rfl) rfl rfl rfl (wt := 4) rfl (by decide) (by decide) (by decide) (by decide) (kk' := 1) rfl (nn' := 0) rfl own_d7_24 (pc' := 27) rfl ?_
  intro r54 T54 h54 W54 q54 z54
  obtain ⟨q54, rfl⟩ := q54
  obtain rfl : r54 = (0 : Int32) := by
    rcases q54 with ⟨_, q⟩ | ⟨_, q⟩ <;> exact q
  refine o_arraycopy W54 A_b1_52 A_a51 rfl b_a51 (ow hw 45 rfl) (ow hw 48 rfl) (ow hw 46 rfl) (ow hw 47 rfl) (i := 4) (j := 0) (n := 0) rfl rfl rfl (Nat.le_of_ble_eq_true rfl) (Nat.le_of_ble_eq_true rfl) (us := []) (zs := []) rfl rfl rfl (wt := 0) rfl (by decide) (by decide) own_d7_27 (pc' := 30) rfl ?_
  intro T55 h55 W55 K55 A55
  refine o_aload W55 own_d7_30 (v := (.ref a51)) rfl rfl (pc' := 32) rfl ?_
  refine o_retA W55 (t := (.array .byte)) rfl rfl rfl rfl own_d7_32 (by decide) (by decide) ?_
  refine ⟨_, rfl, g_a51, ((Keep.refl h0 []).ext EE).trans K55 (fun x hx => Or.inr (by simp only [List.mem_singleton] at hx; rw [hx, g_a51]; exact Nat.le_refl _)), A55⟩
theorem own_ef6_4 (m : MethodId) (z0 : Addr) (z1 : Int32) (z2 : Int32) : entryFrame m #[(.ref z0), (.int z1), (.int z2)] 3 = mkF m 0 #[.val (.ref z0), .val (.int z1), .val (.int z2)] [] := by first | (simp [entryFrame, mkF, argsToLocals, Value.category]; done) | rfl
set_option maxRecDepth 65536 in
set_option maxHeartbeats 4000000 in
theorem rm6_4 (l : Launch) (Z : State) (a0 : Array Value) (hw : ∀ d ∈ tables_1, d.before a0 Z = true) (b1 : Addr) (h0 : Heap) (n0 : Nat) (Z0 : n0 ≤ h0.size) (u0 u1 u2 u3 : Int32) (A1 : OA Z h0 b1 .byte [u0, u1, u2, u3]) (X1 : Exa Z h0 b1 "[B") :
    OCon l Z (⟨"java/util/Arrays", "copyOfRange", "([BII)[B"⟩ : MethodName) jdk_65_method_132_code 3 (some (.array .byte)) [] ({ frames := 2, cells := 1, slots := 0, locals := 34 } : Room) #[(.ref b1), (.int (4 : Int32)), (.int (4 : Int32))] h0 n0 (QA fun r h' => r = h0.size ∧ Keep h0 h' [] ∧ OA Z h' r .byte []) := by
  refine OCon.mk (plainFor_of_name own_pn3) Z0 ?_
  intro p e s m below meth cd s₁ W0
  refine OF.cast (own_ef6_4 m b1 (4 : Int32) (4 : Int32)) ?_
  have c_4___Int32_ : (4 : Int32).toInt = 4 := rfl
  refine o_iloadN W0 own_d6_0 (v := (4 : Int32)) rfl (pc' := 1) rfl ?_
  refine o_if_ne W0 own_d6_1 (by decide) (pq := 10) (by decide) (pc' := 4) rfl (fun hc1 => ?_) (fun hc1 => ?_)
  · refine o_aloadN W0 own_d6_10 (v := (.ref b1)) rfl rfl (pc' := 11) rfl ?_
    refine o_iloadN W0 own_d6_11 (v := (4 : Int32)) rfl (pc' := 12) rfl ?_
    refine o_iloadN W0 own_d6_12 (v := (4 : Int32)) rfl (pc' := 13) rfl ?_
    refine o_callSA W0 (rm7_4 l Z a0 hw b1 h0 n0 W0.le u0 u1 u2 u3 A1 X1) (ow hw 35 rfl) (ow hw 36 rfl) (ow hw 33 rfl) (ow hw 37 rfl) (by decide) (argsL := [(.ref b1), (.int (4 : Int32)), (.int (4 : Int32))]) (S := []) (lenOf own_pd1 rfl) rfl rfl rfl (wt := 0) rfl (by decide) (by decide) (by decide) (by decide) (kk' := 1) rfl (nn' := 0) rfl own_d6_13 (pc' := 16) rfl ?_
    intro r56 T56 h56 W56 q56 z56
    refine o_retA W56 (t := (.array .byte)) rfl rfl rfl rfl own_d6_16 (by decide) (by decide) ?_
    exact ⟨_, rfl, q56⟩
  · exact absurd hc1 (by decide)
theorem own_ef5_4 (m : MethodId) (z0 : Addr) : entryFrame m #[(.ref z0)] 1 = mkF m 0 #[.val (.ref z0)] [] := by first | (simp [entryFrame, mkF, argsToLocals, Value.category]; done) | rfl
set_option maxRecDepth 65536 in
set_option maxHeartbeats 4000000 in
theorem rm5_4 (l : Launch) (Z : State) (a0 : Array Value) (hw : ∀ d ∈ tables_1, d.before a0 Z = true) (b0 : Addr) (h0 : Heap) (n0 : Nat) (Z0 : n0 ≤ h0.size) (b1 : Addr) (u0 u1 u2 u3 : Int32) (A1 : OA Z h0 b1 .byte [u0, u1, u2, u3]) (X1 : Exa Z h0 b1 "[B") (F1 : Fld Z h0 b0 "com/example/austere_access/austereaccess/crypto/Der$Value" "encoding" "[B" (.ref b1)) (F2 : Fld Z h0 b0 "com/example/austere_access/austereaccess/crypto/Der$Value" "header" "I" (.int (4 : Int32))) :
    OCon l Z (⟨"com/example/austere_access/austereaccess/crypto/Der$Value", "contents", "()[B"⟩ : MethodName) prog_19_method_2_code 1 (some (.array .byte)) [] ({ frames := 3, cells := 1, slots := 0, locals := 48 } : Room) #[(.ref b0)] h0 n0 (QA fun r h' => r = h0.size ∧ Keep h0 h' [] ∧ OA Z h' r .byte []) := by
  refine OCon.mk (plainFor_of_name own_pn2) Z0 ?_
  intro p e s m below meth cd s₁ W0
  refine OF.cast (own_ef5_4 m b0) ?_
  refine o_aloadN W0 own_d5_0 (v := (.ref b0)) rfl rfl (pc' := 1) rfl ?_
  refine o_getF W0 (ow hw 22 rfl) F1 own_d5_1 (pc' := 4) rfl ?_
  intro T57 W57
  refine o_aloadN W57 own_d5_4 (v := (.ref b0)) rfl rfl (pc' := 5) rfl ?_
  refine o_getF W57 (ow hw 24 rfl) F2 own_d5_5 (pc' := 8) rfl ?_
  intro T58 W58
  refine o_aloadN W58 own_d5_8 (v := (.ref b0)) rfl rfl (pc' := 9) rfl ?_
  refine o_getF W58 (ow hw 22 rfl) F1 own_d5_9 (pc' := 12) rfl ?_
  intro T59 W59
  refine o_arraylength W59 A1 own_d5_12 (pc' := 13) rfl ?_
  intro v60 hv60
  obtain rfl : v60 = (4 : Int32) := o_eq (y := (4 : Int32)) hv60
  refine o_callSA W59 (rm6_4 l Z a0 hw b1 h0 n0 W59.le u0 u1 u2 u3 A1 X1) (ow hw 31 rfl) (ow hw 32 rfl) (ow hw 33 rfl) (ow hw 34 rfl) (by decide) (argsL := [(.ref b1), (.int (4 : Int32)), (.int (4 : Int32))]) (S := []) (lenOf own_pd1 rfl) rfl rfl rfl (wt := 0) rfl (by decide) (by decide) (by decide) (by decide) (kk' := 1) rfl (nn' := 0) rfl own_d5_13 (pc' := 16) rfl ?_
  intro r61 T61 h61 W61 q61 z61
  refine o_retA W61 (t := (.array .byte)) rfl rfl rfl rfl own_d5_16 (by decide) (by decide) ?_
  exact ⟨_, rfl, q61⟩
theorem own_ef10 (m : MethodId) (z0 : Addr) (z1 : Int32) (z2 : Int32) (z3 : Int32) : entryFrame m #[(.ref z0), (.int z1), (.int z2), (.int z3)] 4 = mkF m 0 #[.val (.ref z0), .val (.int z1), .val (.int z2), .val (.int z3)] [] := by first | (simp [entryFrame, mkF, argsToLocals, Value.category]; done) | rfl
theorem own_d10_0 : decode method_3_code 0 = .ok (.iload_n 1, 1) := by decide +kernel
theorem own_d10_1 : decode method_3_code 1 = .ok (.aload_n 0, 1) := by decide +kernel
theorem own_d10_2 : decode method_3_code 2 = .ok (.arraylength, 1) := by decide +kernel
theorem own_d10_3 : decode method_3_code 3 = .ok (.if_icmp .lt 5, 3) := by decide +kernel
theorem own_d10_8 : decode method_3_code 8 = .ok (.aload_n 0, 1) := by decide +kernel
theorem own_d10_9 : decode method_3_code 9 = .ok (.iload_n 1, 1) := by decide +kernel
theorem own_d10_10 : decode method_3_code 10 = .ok (.baload, 1) := by decide +kernel
theorem own_d10_11 : decode method_3_code 11 = .ok (.iload_n 2, 1) := by decide +kernel
theorem own_d10_12 : decode method_3_code 12 = .ok (.iload_n 3, 1) := by decide +kernel
theorem own_d10_13 : decode method_3_code 13 = .ok (.iload_n 1, 1) := by decide +kernel
theorem own_d10_14 : decode method_3_code 14 = .ok (.iadd, 1) := by decide +kernel
theorem own_d10_15 : decode method_3_code 15 = .ok (.invokestatic 7, 3) := by decide +kernel
theorem own_pd4 : parseMethodDescriptor "(II)B" = some ⟨[.int, .int], some .byte⟩ := by decide +kernel
theorem own_d10_18 : decode method_3_code 18 = .ok (.if_icmp .ne 7, 3) := by decide +kernel
theorem own_d10_21 : decode method_3_code 21 = .ok (.iconst 1, 1) := by decide +kernel
theorem own_d10_22 : decode method_3_code 22 = .ok (.goto 4, 3) := by decide +kernel
theorem own_d10_26 : decode method_3_code 26 = .ok (.ireturn, 1) := by decide +kernel
theorem own_d10_6 : decode method_3_code 6 = .ok (.iconst 1, 1) := by decide +kernel
theorem own_d10_7 : decode method_3_code 7 = .ok (.ireturn, 1) := by decide +kernel
set_option maxRecDepth 65536 in
set_option maxHeartbeats 4000000 in
theorem rm10 (l : Launch) (Z : State) (a0 : Array Value) (hw : ∀ d ∈ tables_1, d.before a0 Z = true) (b0 : Addr) (y1 : Int32) (y2 : Int32) (y3 : Int32) (h0 : Heap) (n0 : Nat) (Z0 : n0 ≤ h0.size) (xs : List Int32) (jn : Nat) (A0 : OA Z h0 b0 .byte xs) (hj : y1.toInt = jn) (hs : jn < xs.length → xs[jn]? = some (own_ba y2 (y3 + y1))) :
    OCon l Z (⟨"com/example/austere_access/austereaccess/crypto/ValueContentsPinLaw", "slot", "([BIII)Z"⟩ : MethodName) method_3_code 4 (some .boolean) [] ({ frames := 1, cells := 0, slots := 0, locals := 14 } : Room) #[(.ref b0), (.int y1), (.int y2), (.int y3)] h0 n0 (QI fun r h' => r = 1 ∧ h0 = h') := by
  refine OCon.mk (plainFor_of_name own_pn0) Z0 ?_
  intro p e s m below meth cd s₁ W0
  refine OF.cast (own_ef10 m b0 y1 y2 y3) ?_
  refine o_iloadN W0 own_d10_0 (v := y1) rfl (pc' := 1) rfl ?_
  refine o_aloadN W0 own_d10_1 (v := (.ref b0)) rfl rfl (pc' := 2) rfl ?_
  refine o_arraylength W0 A0 own_d10_2 (pc' := 3) rfl ?_
  intro v62 hv62
  refine o_icmp_lt W0 own_d10_3 (by decide) (pq := 8) (by decide) (pc' := 6) rfl (fun hc3 => ?_) (fun hc3 => ?_)
  · refine o_aloadN W0 own_d10_8 (v := (.ref b0)) rfl rfl (pc' := 9) rfl ?_
    refine o_iloadN W0 own_d10_9 (v := y1) rfl (pc' := 10) rfl ?_
    refine o_baload W0 A0 own_d10_10 (pc' := 11) rfl (i := jn) (v := (own_ba y2 (y3 + y1))) hj (hs (by omega)) ?_
    refine o_iloadN W0 own_d10_11 (v := y2) rfl (pc' := 12) rfl ?_
    refine o_iloadN W0 own_d10_12 (v := y3) rfl (pc' := 13) rfl ?_
    refine o_iloadN W0 own_d10_13 (v := y1) rfl (pc' := 14) rfl ?_
    refine o_iadd W0 own_d10_14 (pc' := 15) rfl ?_
    refine o_callSI W0 (rm1 l Z a0 hw y2 (y3 + y1) h0 n0 W0.le) (ow hw 1 rfl) (ow hw 2 rfl) (ow hw 3 rfl) (ow hw 4 rfl) (by decide) (argsL := [(.int y2), (.int (y3 + y1))]) (S := [(.int (own_ba y2 (y3 + y1)))]) (lenOf own_pd4 rfl) rfl rfl rfl (wt := 1) rfl (by decide) (by decide) (by decide) (by decide) (kk' := 0) rfl (nn' := 0) rfl own_d10_15 (pc' := 18) rfl ?_
    intro r63 T63 h63 W63 q63 z63
    obtain ⟨q63, rfl⟩ := q63
    subst q63
    refine o_icmp_ne W63 own_d10_18 (by decide) (pq := 25) (by decide) (pc' := 21) rfl (fun hc18 => ?_) (fun hc18 => ?_)
    · exact absurd rfl hc18
    · refine o_iconst W63 (v := (1 : Int32)) own_d10_21 rfl (pc' := 22) rfl ?_
      refine o_goto W63 own_d10_22 (by decide) (pq := 26) (by decide) ?_
      refine o_retN W63 (t := .boolean) rfl (by simp) own_d10_26 (by decide) (by decide) ?_
      exact ⟨(1 : Int32), rfl, rfl, rfl⟩
  · refine o_iconst W0 (v := (1 : Int32)) own_d10_6 rfl (pc' := 7) rfl ?_
    refine o_retN W0 (t := .boolean) rfl (by simp) own_d10_7 (by decide) (by decide) ?_
    exact ⟨(1 : Int32), rfl, rfl, rfl⟩
theorem own_ef0 (m : MethodId) (z0 : Int32) (z1 : Int32) (z2 : Int32) : entryFrame m #[(.int z0), (.int z1), (.int z2)] maxLocals = mkF m 0 #[.val (.int z0), .val (.int z1), .val (.int z2), .unset, .unset, .unset, .unset] [] := by first | (simp [entryFrame, mkF, argsToLocals, Value.category, maxLocals]; done) | rfl
theorem own_pd5 : parseMethodDescriptor "(I[BI)V" = some ⟨[.int, (.array .byte), .int], none⟩ := by decide +kernel
theorem own_pd6 : parseMethodDescriptor "()[B" = some ⟨[], some (.array .byte)⟩ := by decide +kernel
theorem own_pd7 : parseMethodDescriptor "([BIII)Z" = some ⟨[(.array .byte), .int, .int, .int], some .boolean⟩ := by decide +kernel
set_option maxRecDepth 65536 in
set_option maxHeartbeats 4000000 in
theorem own_law (l : Launch) (Z : State) (a0 : Array Value) (hw : ∀ d ∈ tables_1, d.before a0 Z = true) (x0 : Int32) (x1 : Int32) (x2 : Int32) (h0 : Heap) (n0 : Nat) (Z0 : n0 ≤ h0.size) :
    OCon l Z x code maxLocals ret tables_1 room_1 #[(.int x0), (.int x1), (.int x2)] h0 n0 (fun v _ => v = some (.int 1)) := by
  refine OCon.mk (plainFor_of_name own_pn0) Z0 ?_
  intro p e s m below meth cd s₁ W0
  refine OF.cast (own_ef0 m x0 x1 x2) ?_
  refine o_iconst W0 (v := (4 : Int32)) at_0 rfl (pc' := 1) rfl ?_
  refine o_newarrayE W0 (ty := .byte) (ad := "[B") (len := 4) (cap := 4) (ow hw 0 rfl) rfl (by decide) rfl rfl at_1 (pc' := 3) rfl rfl (by decide) (by decide) (by decide) (by decide) (kk' := 1) rfl (nn' := 4) rfl ?_
  intro T64 h64 a1 W64 E64 g_a1 A_a1 X_a1
  have b_a1 : n0 ≤ a1 := by rw [g_a1]; exact W0.le
  have A_a1 : OA Z h64 a1 .byte [0, 0, 0, 0] := A_a1
  refine o_astoreN W64 (L' := #[.val (.int x0), .val (.int x1), .val (.int x2), .val (.ref a1), .unset, .unset, .unset]) at_3 rfl rfl (pc' := 4) rfl ?_
  refine o_aloadN W64 at_4 (v := (.ref a1)) rfl rfl (pc' := 5) rfl ?_
  refine o_iconst W64 (v := (0 : Int32)) at_5 rfl (pc' := 6) rfl ?_
  refine o_iloadN W64 at_6 (v := x1) rfl (pc' := 7) rfl ?_
  refine o_iconst W64 (v := (0 : Int32)) at_7 rfl (pc' := 8) rfl ?_
  refine o_callSI W64 (rm1 l Z a0 hw x1 (0 : Int32) h64 n0 W64.le) (ow hw 1 rfl) (ow hw 2 rfl) (ow hw 3 rfl) (ow hw 4 rfl) (by decide) (argsL := [(.int x1), (.int (0 : Int32))]) (S := [(.int (0 : Int32)), (.ref a1)]) (lenOf own_pd4 rfl) rfl rfl rfl (wt := 2) rfl (by decide) (by decide) (by decide) (by decide) (kk' := 1) rfl (nn' := 4) rfl at_8 (pc' := 11) rfl ?_
  intro r65 T65 h65 W65 q65 z65
  obtain ⟨q65, rfl⟩ := q65
  subst q65
  refine o_bastore W65 A_a1 b_a1 at_11 (pc' := 12) rfl (i := 0) rfl (Nat.le_of_ble_eq_true rfl) ?_
  intro T66 h66 W66 K66 A_a1_66
  have X_a1_66 := Exa.keep X_a1 K66
  have A_a1_66 : OA Z h66 a1 .byte [((own_ba x1 (0 : Int32)).toInt8.toInt32), 0, 0, 0] := A_a1_66
  refine o_aloadN W66 at_12 (v := (.ref a1)) rfl rfl (pc' := 13) rfl ?_
  refine o_iconst W66 (v := (1 : Int32)) at_13 rfl (pc' := 14) rfl ?_
  refine o_iloadN W66 at_14 (v := x1) rfl (pc' := 15) rfl ?_
  refine o_iconst W66 (v := (1 : Int32)) at_15 rfl (pc' := 16) rfl ?_
  refine o_callSI W66 (rm1 l Z a0 hw x1 (1 : Int32) h66 n0 W66.le) (ow hw 1 rfl) (ow hw 2 rfl) (ow hw 3 rfl) (ow hw 4 rfl) (by decide) (argsL := [(.int x1), (.int (1 : Int32))]) (S := [(.int (1 : Int32)), (.ref a1)]) (lenOf own_pd4 rfl) rfl rfl rfl (wt := 2) rfl (by decide) (by decide) (by decide) (by decide) (kk' := 1) rfl (nn' := 4) rfl at_16 (pc' := 19) rfl ?_
  intro r67 T67 h67 W67 q67 z67
  obtain ⟨q67, rfl⟩ := q67
  subst q67
  refine o_bastore W67 A_a1_66 b_a1 at_19 (pc' := 20) rfl (i := 1) rfl (Nat.le_of_ble_eq_true rfl) ?_
  intro T68 h68 W68 K68 A_a1_68
  have X_a1_68 := Exa.keep X_a1_66 K68
  have A_a1_68 : OA Z h68 a1 .byte [((own_ba x1 (0 : Int32)).toInt8.toInt32), ((own_ba x1 (1 : Int32)).toInt8.toInt32), 0, 0] := A_a1_68
  refine o_aloadN W68 at_20 (v := (.ref a1)) rfl rfl (pc' := 21) rfl ?_
  refine o_iconst W68 (v := (2 : Int32)) at_21 rfl (pc' := 22) rfl ?_
  refine o_iloadN W68 at_22 (v := x1) rfl (pc' := 23) rfl ?_
  refine o_iconst W68 (v := (2 : Int32)) at_23 rfl (pc' := 24) rfl ?_
  refine o_callSI W68 (rm1 l Z a0 hw x1 (2 : Int32) h68 n0 W68.le) (ow hw 1 rfl) (ow hw 2 rfl) (ow hw 3 rfl) (ow hw 4 rfl) (by decide) (argsL := [(.int x1), (.int (2 : Int32))]) (S := [(.int (2 : Int32)), (.ref a1)]) (lenOf own_pd4 rfl) rfl rfl rfl (wt := 2) rfl (by decide) (by decide) (by decide) (by decide) (kk' := 1) rfl (nn' := 4) rfl at_24 (pc' := 27) rfl ?_
  intro r69 T69 h69 W69 q69 z69
  obtain ⟨q69, rfl⟩ := q69
  subst q69
  refine o_bastore W69 A_a1_68 b_a1 at_27 (pc' := 28) rfl (i := 2) rfl (Nat.le_of_ble_eq_true rfl) ?_
  intro T70 h70 W70 K70 A_a1_70
  have X_a1_70 := Exa.keep X_a1_68 K70
  have A_a1_70 : OA Z h70 a1 .byte [((own_ba x1 (0 : Int32)).toInt8.toInt32), ((own_ba x1 (1 : Int32)).toInt8.toInt32), ((own_ba x1 (2 : Int32)).toInt8.toInt32), 0] := A_a1_70
  refine o_aloadN W70 at_28 (v := (.ref a1)) rfl rfl (pc' := 29) rfl ?_
  refine o_iconst W70 (v := (3 : Int32)) at_29 rfl (pc' := 30) rfl ?_
  refine o_iloadN W70 at_30 (v := x1) rfl (pc' := 31) rfl ?_
  refine o_iconst W70 (v := (3 : Int32)) at_31 rfl (pc' := 32) rfl ?_
  refine o_callSI W70 (rm1 l Z a0 hw x1 (3 : Int32) h70 n0 W70.le) (ow hw 1 rfl) (ow hw 2 rfl) (ow hw 3 rfl) (ow hw 4 rfl) (by decide) (argsL := [(.int x1), (.int (3 : Int32))]) (S := [(.int (3 : Int32)), (.ref a1)]) (lenOf own_pd4 rfl) rfl rfl rfl (wt := 2) rfl (by decide) (by decide) (by decide) (by decide) (kk' := 1) rfl (nn' := 4) rfl at_32 (pc' := 35) rfl ?_
  intro r71 T71 h71 W71 q71 z71
  obtain ⟨q71, rfl⟩ := q71
  subst q71
  refine o_bastore W71 A_a1_70 b_a1 at_35 (pc' := 36) rfl (i := 3) rfl (Nat.le_of_ble_eq_true rfl) ?_
  intro T72 h72 W72 K72 A_a1_72
  have X_a1_72 := Exa.keep X_a1_70 K72
  have A_a1_72 : OA Z h72 a1 .byte [((own_ba x1 (0 : Int32)).toInt8.toInt32), ((own_ba x1 (1 : Int32)).toInt8.toInt32), ((own_ba x1 (2 : Int32)).toInt8.toInt32), ((own_ba x1 (3 : Int32)).toInt8.toInt32)] := A_a1_72
  have A4 : OA Z h72 a1 .byte [(own_ba x1 (0 : Int32)), (own_ba x1 (1 : Int32)), (own_ba x1 (2 : Int32)), (own_ba x1 (3 : Int32))] := by
    have q := A_a1_72
    simp only [own_bad] at q
    exact q
  refine o_iloadN W72 at_36 (v := x2) rfl (pc' := 37) rfl ?_
  refine o_ldc W72 (ow hw 5 rfl) at_37 (pc' := 39) rfl ?_
  refine o_iand W72 at_39 (pc' := 40) rfl ?_
  refine o_iconst W72 (v := (5 : Int32)) at_40 rfl (pc' := 41) rfl ?_
  refine o_irem W72 at_41 (by decide) (pc' := 42) rfl ?_
  refine o_istoreG W72 (Lf := fun v73 => #[.val (.int x0), .val (.int x1), .val (.int x2), .val (.ref a1), .val (.int v73), .unset, .unset]) at_42 rfl (pc' := 44) rfl ?_
  intro v73 hv73
  have h5 := own_five x2
  rw [← hv73] at h5
  clear hv73
  rcases h5 with rfl | rfl | rfl | rfl | rfl
  · refine o_new W72 (ow hw 6 rfl) (ow hw 7 rfl) (ow hw 8 rfl) at_44 (pc' := 47) rfl (by decide) (by decide) (kk' := 2) rfl (nn' := 7) rfl ?_
    intro T75 h75 a74 W75 E75 g_a74 X_a74 D_a74
    have b_a74 : n0 ≤ a74 := by rw [g_a74]; exact W72.le
    have ne_a1_a74 : a1 ≠ a74 := Nat.ne_of_lt (Nat.lt_of_lt_of_le A4.lt (Nat.le_of_eq g_a74.symm))
    have A_a1_75 := A4.ext E75
    have ne_a1_a74 : a1 ≠ a74 := Nat.ne_of_lt (Nat.lt_of_lt_of_le X_a1_72.lt (Nat.le_of_eq g_a74.symm))
    have X_a1_75 := Exa.ext E75 X_a1_72
    have F_tag_a74 : Fld Z h75 a74 "com/example/austere_access/austereaccess/crypto/Der$Value" "tag" "I" (.int (0 : Int32)) := D_a74 (Or.inr (ow hw 21 rfl)) (ty := .int) (by decide)
    have F_encoding_a74 : Fld Z h75 a74 "com/example/austere_access/austereaccess/crypto/Der$Value" "encoding" "[B" .null := D_a74 (Or.inr (ow hw 23 rfl)) (ty := (.array .byte)) (by decide)
    have F_header_a74 : Fld Z h75 a74 "com/example/austere_access/austereaccess/crypto/Der$Value" "header" "I" (.int (0 : Int32)) := D_a74 (Or.inr (ow hw 25 rfl)) (ty := .int) (by decide)
    refine o_dup W75 at_47 rfl (pc' := 48) rfl ?_
    refine o_iloadN W75 at_48 (v := x0) rfl (pc' := 49) rfl ?_
    refine o_aloadN W75 at_49 (v := (.ref a1)) rfl rfl (pc' := 50) rfl ?_
    refine o_iload W75 at_50 (v := (0 : Int32)) rfl (pc' := 52) rfl ?_
    refine o_callC W75 (rm2 l Z a0 hw a74 x0 a1 (0 : Int32) h75 n0 W75.le X_a74 F_tag_a74 F_encoding_a74 F_header_a74 b_a74) rfl (ow hw 9 rfl) (ow hw 10 rfl) (ow hw 8 rfl) (ow hw 11 rfl) (by decide) (argsL := [(.int x0), (.ref a1), (.int (0 : Int32))]) (S := [(.ref a74)]) (lenOf own_pd5 rfl) rfl rfl rfl (wt := 1) rfl (by decide) (by decide) (by decide) (by decide) (kk' := 2) rfl (nn' := 7) rfl at_52 (pc' := 55) rfl ?_
    intro T76 h76 W76 q76 z76
    obtain ⟨X_a74_76, Fe, Fh, KC⟩ := q76
    have A5 := A_a1_75.keep1 KC ne_a1_a74
    have X5 := Exa.keep X_a1_75 KC
    refine o_astore W76 (L' := #[.val (.int x0), .val (.int x1), .val (.int x2), .val (.ref a1), .val (.int (0 : Int32)), .val (.ref a74), .unset]) at_55 rfl rfl (pc' := 57) rfl ?_
    refine o_aload W76 at_57 (v := (.ref a74)) rfl rfl (pc' := 59) rfl ?_
    refine o_callV W76 X_a74_76 (rm5_0 l Z a0 hw a74 h76 n0 W76.le a1 _ _ _ _ A5 X5 Fe Fh) (ow hw 26 rfl) (ow hw 27 rfl) (notFace_of_selects (args := #[]) (mvT W76.hZ (ow hw 29 rfl))) (ow hw 29 rfl) (ow hw 28 rfl) (ow hw 8 rfl) (ow hw 30 rfl) (by decide) (argsL := []) (S := []) (lenOf own_pd6 rfl) rfl rfl rfl (wt := 0) rfl (by decide) (by decide) (by decide) (by decide) (kk' := 3) rfl (nn' := 11) rfl at_59 (pc' := 62) rfl ?_
    intro vv T77 h77 W77 q77 z77
    obtain ⟨r77, rfl, q77⟩ := q77
    show OF _ _ _ _ _ _ _ T77 (mkF m 62 #[.val (.int x0), .val (.int x1), .val (.int x2), .val (.ref a1), .val (.int (0 : Int32)), .val (.ref a74), .unset] [(.ref r77)])
    obtain ⟨gr, KR, AR⟩ := q77
    have A6 := A5.keep KR nin0
    have ner : r77 ≠ a1 := (Nat.ne_of_lt (Nat.lt_of_lt_of_le A5.lt (Nat.le_of_eq gr.symm))).symm
    refine o_astore W77 (L' := #[.val (.int x0), .val (.int x1), .val (.int x2), .val (.ref a1), .val (.int (0 : Int32)), .val (.ref a74), .val (.ref r77)]) at_62 rfl rfl (pc' := 64) rfl ?_
    refine o_aload W77 at_64 (v := (.ref r77)) rfl rfl (pc' := 66) rfl ?_
    refine o_ifnullNo W77 at_66 (pc' := 69) rfl ?_
    refine o_aload W77 at_69 (v := (.ref r77)) rfl rfl (pc' := 71) rfl ?_
    refine o_aloadN W77 at_71 (v := (.ref a1)) rfl rfl (pc' := 72) rfl ?_
    refine o_acmpne W77 ner at_72 (by decide) (pq := 77) (by decide) ?_
    refine o_aload W77 at_77 (v := (.ref r77)) rfl rfl (pc' := 79) rfl ?_
    refine o_arraylength W77 AR at_79 (pc' := 80) rfl ?_
    intro v78 hv78
    obtain rfl : v78 = (4 : Int32) := o_eq (y := (4 : Int32)) hv78
    refine o_iconst W77 (v := (4 : Int32)) at_80 rfl (pc' := 81) rfl ?_
    refine o_iload W77 at_81 (v := (0 : Int32)) rfl (pc' := 83) rfl ?_
    refine o_isub W77 at_83 (pc' := 84) rfl ?_
    show OF _ _ _ _ _ _ _ T77 (mkF m 84 #[.val (.int x0), .val (.int x1), .val (.int x2), .val (.ref a1), .val (.int (0 : Int32)), .val (.ref a74), .val (.ref r77)] [(.int (4 : Int32)), (.int (4 : Int32))])
    refine o_icmp_eq W77 at_84 (by decide) (pq := 89) (by decide) (pc' := 87) rfl (fun hc84 => ?_) (fun hc84 => ?_)
    · refine o_aload W77 at_89 (v := (.ref r77)) rfl rfl (pc' := 91) rfl ?_
      refine o_iconst W77 (v := (0 : Int32)) at_91 rfl (pc' := 92) rfl ?_
      refine o_iloadN W77 at_92 (v := x1) rfl (pc' := 93) rfl ?_
      refine o_iload W77 at_93 (v := (0 : Int32)) rfl (pc' := 95) rfl ?_
      refine o_callSI W77 (rm10 l Z a0 hw r77 (0 : Int32) x1 (0 : Int32) h77 n0 W77.le _ 0 AR rfl (fun _ => rfl)) (ow hw 49 rfl) (ow hw 50 rfl) (ow hw 3 rfl) (ow hw 51 rfl) (by decide) (argsL := [(.ref r77), (.int (0 : Int32)), (.int x1), (.int (0 : Int32))]) (S := []) (lenOf own_pd7 rfl) rfl rfl rfl (wt := 0) rfl (by decide) (by decide) (by decide) (by decide) (kk' := 3) rfl (nn' := 11) rfl at_95 (pc' := 98) rfl ?_
      intro r79 T79 h79 W79 q79 z79
      obtain ⟨q79, rfl⟩ := q79
      have hr79 : r79.toInt = 1 := by rw [q79]; rfl
      refine o_if_eq W79 at_98 (by decide) (pq := 137) (by decide) (pc' := 101) rfl (fun hc98 => ?_) (fun hc98 => ?_)
      · exfalso; omega
      · refine o_aload W79 at_101 (v := (.ref r77)) rfl rfl (pc' := 103) rfl ?_
        refine o_iconst W79 (v := (1 : Int32)) at_103 rfl (pc' := 104) rfl ?_
        refine o_iloadN W79 at_104 (v := x1) rfl (pc' := 105) rfl ?_
        refine o_iload W79 at_105 (v := (0 : Int32)) rfl (pc' := 107) rfl ?_
        refine o_callSI W79 (rm10 l Z a0 hw r77 (1 : Int32) x1 (0 : Int32) h77 n0 W79.le _ 1 AR rfl (fun _ => rfl)) (ow hw 49 rfl) (ow hw 50 rfl) (ow hw 3 rfl) (ow hw 51 rfl) (by decide) (argsL := [(.ref r77), (.int (1 : Int32)), (.int x1), (.int (0 : Int32))]) (S := []) (lenOf own_pd7 rfl) rfl rfl rfl (wt := 0) rfl (by decide) (by decide) (by decide) (by decide) (kk' := 3) rfl (nn' := 11) rfl at_107 (pc' := 110) rfl ?_
        intro r80 T80 h80 W80 q80 z80
        obtain ⟨q80, rfl⟩ := q80
        have hr80 : r80.toInt = 1 := by rw [q80]; rfl
        refine o_if_eq W80 at_110 (by decide) (pq := 137) (by decide) (pc' := 113) rfl (fun hc110 => ?_) (fun hc110 => ?_)
        · exfalso; omega
        · refine o_aload W80 at_113 (v := (.ref r77)) rfl rfl (pc' := 115) rfl ?_
          refine o_iconst W80 (v := (2 : Int32)) at_115 rfl (pc' := 116) rfl ?_
          refine o_iloadN W80 at_116 (v := x1) rfl (pc' := 117) rfl ?_
          refine o_iload W80 at_117 (v := (0 : Int32)) rfl (pc' := 119) rfl ?_
          refine o_callSI W80 (rm10 l Z a0 hw r77 (2 : Int32) x1 (0 : Int32) h77 n0 W80.le _ 2 AR rfl (fun _ => rfl)) (ow hw 49 rfl) (ow hw 50 rfl) (ow hw 3 rfl) (ow hw 51 rfl) (by decide) (argsL := [(.ref r77), (.int (2 : Int32)), (.int x1), (.int (0 : Int32))]) (S := []) (lenOf own_pd7 rfl) rfl rfl rfl (wt := 0) rfl (by decide) (by decide) (by decide) (by decide) (kk' := 3) rfl (nn' := 11) rfl at_119 (pc' := 122) rfl ?_
          intro r81 T81 h81 W81 q81 z81
          obtain ⟨q81, rfl⟩ := q81
          have hr81 : r81.toInt = 1 := by rw [q81]; rfl
          refine o_if_eq W81 at_122 (by decide) (pq := 137) (by decide) (pc' := 125) rfl (fun hc122 => ?_) (fun hc122 => ?_)
          · exfalso; omega
          · refine o_aload W81 at_125 (v := (.ref r77)) rfl rfl (pc' := 127) rfl ?_
            refine o_iconst W81 (v := (3 : Int32)) at_127 rfl (pc' := 128) rfl ?_
            refine o_iloadN W81 at_128 (v := x1) rfl (pc' := 129) rfl ?_
            refine o_iload W81 at_129 (v := (0 : Int32)) rfl (pc' := 131) rfl ?_
            refine o_callSI W81 (rm10 l Z a0 hw r77 (3 : Int32) x1 (0 : Int32) h77 n0 W81.le _ 3 AR rfl (fun _ => rfl)) (ow hw 49 rfl) (ow hw 50 rfl) (ow hw 3 rfl) (ow hw 51 rfl) (by decide) (argsL := [(.ref r77), (.int (3 : Int32)), (.int x1), (.int (0 : Int32))]) (S := []) (lenOf own_pd7 rfl) rfl rfl rfl (wt := 0) rfl (by decide) (by decide) (by decide) (by decide) (kk' := 3) rfl (nn' := 11) rfl at_131 (pc' := 134) rfl ?_
            intro r82 T82 h82 W82 q82 z82
            obtain ⟨q82, rfl⟩ := q82
            have hr82 : r82.toInt = 1 := by rw [q82]; rfl
            refine o_if_ne W82 at_134 (by decide) (pq := 139) (by decide) (pc' := 137) rfl (fun hc134 => ?_) (fun hc134 => ?_)
            · refine o_aloadN W82 at_139 (v := (.ref a1)) rfl rfl (pc' := 140) rfl ?_
              refine o_iconst W82 (v := (0 : Int32)) at_140 rfl (pc' := 141) rfl ?_
              refine o_baload W82 A6 at_141 (pc' := 142) rfl (i := 0) (v := (own_ba x1 (0 : Int32))) rfl rfl ?_
              refine o_iloadN W82 at_142 (v := x1) rfl (pc' := 143) rfl ?_
              refine o_iconst W82 (v := (0 : Int32)) at_143 rfl (pc' := 144) rfl ?_
              refine o_callSI W82 (rm1 l Z a0 hw x1 (0 : Int32) h77 n0 W82.le) (ow hw 1 rfl) (ow hw 2 rfl) (ow hw 3 rfl) (ow hw 4 rfl) (by decide) (argsL := [(.int x1), (.int (0 : Int32))]) (S := [(.int (own_ba x1 (0 : Int32)))]) (lenOf own_pd4 rfl) rfl rfl rfl (wt := 1) rfl (by decide) (by decide) (by decide) (by decide) (kk' := 3) rfl (nn' := 11) rfl at_144 (pc' := 147) rfl ?_
              intro r83 T83 h83 W83 q83 z83
              obtain ⟨q83, rfl⟩ := q83
              subst q83
              refine o_icmp_ne W83 at_147 (by decide) (pq := 187) (by decide) (pc' := 150) rfl (fun hc147 => ?_) (fun hc147 => ?_)
              · exact absurd rfl hc147
              · refine o_aloadN W83 at_150 (v := (.ref a1)) rfl rfl (pc' := 151) rfl ?_
                refine o_iconst W83 (v := (1 : Int32)) at_151 rfl (pc' := 152) rfl ?_
                refine o_baload W83 A6 at_152 (pc' := 153) rfl (i := 1) (v := (own_ba x1 (1 : Int32))) rfl rfl ?_
                refine o_iloadN W83 at_153 (v := x1) rfl (pc' := 154) rfl ?_
                refine o_iconst W83 (v := (1 : Int32)) at_154 rfl (pc' := 155) rfl ?_
                refine o_callSI W83 (rm1 l Z a0 hw x1 (1 : Int32) h77 n0 W83.le) (ow hw 1 rfl) (ow hw 2 rfl) (ow hw 3 rfl) (ow hw 4 rfl) (by decide) (argsL := [(.int x1), (.int (1 : Int32))]) (S := [(.int (own_ba x1 (1 : Int32)))]) (lenOf own_pd4 rfl) rfl rfl rfl (wt := 1) rfl (by decide) (by decide) (by decide) (by decide) (kk' := 3) rfl (nn' := 11) rfl at_155 (pc' := 158) rfl ?_
                intro r84 T84 h84 W84 q84 z84
                obtain ⟨q84, rfl⟩ := q84
                subst q84
                refine o_icmp_ne W84 at_158 (by decide) (pq := 187) (by decide) (pc' := 161) rfl (fun hc158 => ?_) (fun hc158 => ?_)
                · exact absurd rfl hc158
                · refine o_aloadN W84 at_161 (v := (.ref a1)) rfl rfl (pc' := 162) rfl ?_
                  refine o_iconst W84 (v := (2 : Int32)) at_162 rfl (pc' := 163) rfl ?_
                  refine o_baload W84 A6 at_163 (pc' := 164) rfl (i := 2) (v := (own_ba x1 (2 : Int32))) rfl rfl ?_
                  refine o_iloadN W84 at_164 (v := x1) rfl (pc' := 165) rfl ?_
                  refine o_iconst W84 (v := (2 : Int32)) at_165 rfl (pc' := 166) rfl ?_
                  refine o_callSI W84 (rm1 l Z a0 hw x1 (2 : Int32) h77 n0 W84.le) (ow hw 1 rfl) (ow hw 2 rfl) (ow hw 3 rfl) (ow hw 4 rfl) (by decide) (argsL := [(.int x1), (.int (2 : Int32))]) (S := [(.int (own_ba x1 (2 : Int32)))]) (lenOf own_pd4 rfl) rfl rfl rfl (wt := 1) rfl (by decide) (by decide) (by decide) (by decide) (kk' := 3) rfl (nn' := 11) rfl at_166 (pc' := 169) rfl ?_
                  intro r85 T85 h85 W85 q85 z85
                  obtain ⟨q85, rfl⟩ := q85
                  subst q85
                  refine o_icmp_ne W85 at_169 (by decide) (pq := 187) (by decide) (pc' := 172) rfl (fun hc169 => ?_) (fun hc169 => ?_)
                  · exact absurd rfl hc169
                  · refine o_aloadN W85 at_172 (v := (.ref a1)) rfl rfl (pc' := 173) rfl ?_
                    refine o_iconst W85 (v := (3 : Int32)) at_173 rfl (pc' := 174) rfl ?_
                    refine o_baload W85 A6 at_174 (pc' := 175) rfl (i := 3) (v := (own_ba x1 (3 : Int32))) rfl rfl ?_
                    refine o_iloadN W85 at_175 (v := x1) rfl (pc' := 176) rfl ?_
                    refine o_iconst W85 (v := (3 : Int32)) at_176 rfl (pc' := 177) rfl ?_
                    refine o_callSI W85 (rm1 l Z a0 hw x1 (3 : Int32) h77 n0 W85.le) (ow hw 1 rfl) (ow hw 2 rfl) (ow hw 3 rfl) (ow hw 4 rfl) (by decide) (argsL := [(.int x1), (.int (3 : Int32))]) (S := [(.int (own_ba x1 (3 : Int32)))]) (lenOf own_pd4 rfl) rfl rfl rfl (wt := 1) rfl (by decide) (by decide) (by decide) (by decide) (kk' := 3) rfl (nn' := 11) rfl at_177 (pc' := 180) rfl ?_
                    intro r86 T86 h86 W86 q86 z86
                    obtain ⟨q86, rfl⟩ := q86
                    subst q86
                    refine o_icmp_ne W86 at_180 (by decide) (pq := 187) (by decide) (pc' := 183) rfl (fun hc180 => ?_) (fun hc180 => ?_)
                    · exact absurd rfl hc180
                    · refine o_iconst W86 (v := (1 : Int32)) at_183 rfl (pc' := 184) rfl ?_
                      refine o_goto W86 at_184 (by decide) (pq := 188) (by decide) ?_
                      refine o_retN W86 (t := .boolean) rfl (by simp) at_188 (by decide) (by decide) ?_
                      exact rfl
            · exfalso; omega
    · exact absurd hc84 (by decide)
  · refine o_new W72 (ow hw 6 rfl) (ow hw 7 rfl) (ow hw 8 rfl) at_44 (pc' := 47) rfl (by decide) (by decide) (kk' := 2) rfl (nn' := 7) rfl ?_
    intro T88 h88 a87 W88 E88 g_a87 X_a87 D_a87
    have b_a87 : n0 ≤ a87 := by rw [g_a87]; exact W72.le
    have ne_a1_a87 : a1 ≠ a87 := Nat.ne_of_lt (Nat.lt_of_lt_of_le A4.lt (Nat.le_of_eq g_a87.symm))
    have A_a1_88 := A4.ext E88
    have ne_a1_a87 : a1 ≠ a87 := Nat.ne_of_lt (Nat.lt_of_lt_of_le X_a1_72.lt (Nat.le_of_eq g_a87.symm))
    have X_a1_88 := Exa.ext E88 X_a1_72
    have F_tag_a87 : Fld Z h88 a87 "com/example/austere_access/austereaccess/crypto/Der$Value" "tag" "I" (.int (0 : Int32)) := D_a87 (Or.inr (ow hw 21 rfl)) (ty := .int) (by decide)
    have F_encoding_a87 : Fld Z h88 a87 "com/example/austere_access/austereaccess/crypto/Der$Value" "encoding" "[B" .null := D_a87 (Or.inr (ow hw 23 rfl)) (ty := (.array .byte)) (by decide)
    have F_header_a87 : Fld Z h88 a87 "com/example/austere_access/austereaccess/crypto/Der$Value" "header" "I" (.int (0 : Int32)) := D_a87 (Or.inr (ow hw 25 rfl)) (ty := .int) (by decide)
    refine o_dup W88 at_47 rfl (pc' := 48) rfl ?_
    refine o_iloadN W88 at_48 (v := x0) rfl (pc' := 49) rfl ?_
    refine o_aloadN W88 at_49 (v := (.ref a1)) rfl rfl (pc' := 50) rfl ?_
    refine o_iload W88 at_50 (v := (1 : Int32)) rfl (pc' := 52) rfl ?_
    refine o_callC W88 (rm2 l Z a0 hw a87 x0 a1 (1 : Int32) h88 n0 W88.le X_a87 F_tag_a87 F_encoding_a87 F_header_a87 b_a87) rfl (ow hw 9 rfl) (ow hw 10 rfl) (ow hw 8 rfl) (ow hw 11 rfl) (by decide) (argsL := [(.int x0), (.ref a1), (.int (1 : Int32))]) (S := [(.ref a87)]) (lenOf own_pd5 rfl) rfl rfl rfl (wt := 1) rfl (by decide) (by decide) (by decide) (by decide) (kk' := 2) rfl (nn' := 7) rfl at_52 (pc' := 55) rfl ?_
    intro T89 h89 W89 q89 z89
    obtain ⟨X_a87_89, Fe, Fh, KC⟩ := q89
    have A5 := A_a1_88.keep1 KC ne_a1_a87
    have X5 := Exa.keep X_a1_88 KC
    refine o_astore W89 (L' := #[.val (.int x0), .val (.int x1), .val (.int x2), .val (.ref a1), .val (.int (1 : Int32)), .val (.ref a87), .unset]) at_55 rfl rfl (pc' := 57) rfl ?_
    refine o_aload W89 at_57 (v := (.ref a87)) rfl rfl (pc' := 59) rfl ?_
    refine o_callV W89 X_a87_89 (rm5_1 l Z a0 hw a87 h89 n0 W89.le a1 _ _ _ _ A5 X5 Fe Fh) (ow hw 26 rfl) (ow hw 27 rfl) (notFace_of_selects (args := #[]) (mvT W89.hZ (ow hw 29 rfl))) (ow hw 29 rfl) (ow hw 28 rfl) (ow hw 8 rfl) (ow hw 30 rfl) (by decide) (argsL := []) (S := []) (lenOf own_pd6 rfl) rfl rfl rfl (wt := 0) rfl (by decide) (by decide) (by decide) (by decide) (kk' := 3) rfl (nn' := 10) rfl at_59 (pc' := 62) rfl ?_
    intro vv T90 h90 W90 q90 z90
    obtain ⟨r90, rfl, q90⟩ := q90
    show OF _ _ _ _ _ _ _ T90 (mkF m 62 #[.val (.int x0), .val (.int x1), .val (.int x2), .val (.ref a1), .val (.int (1 : Int32)), .val (.ref a87), .unset] [(.ref r90)])
    obtain ⟨gr, KR, AR⟩ := q90
    have A6 := A5.keep KR nin0
    have ner : r90 ≠ a1 := (Nat.ne_of_lt (Nat.lt_of_lt_of_le A5.lt (Nat.le_of_eq gr.symm))).symm
    refine o_astore W90 (L' := #[.val (.int x0), .val (.int x1), .val (.int x2), .val (.ref a1), .val (.int (1 : Int32)), .val (.ref a87), .val (.ref r90)]) at_62 rfl rfl (pc' := 64) rfl ?_
    refine o_aload W90 at_64 (v := (.ref r90)) rfl rfl (pc' := 66) rfl ?_
    refine o_ifnullNo W90 at_66 (pc' := 69) rfl ?_
    refine o_aload W90 at_69 (v := (.ref r90)) rfl rfl (pc' := 71) rfl ?_
    refine o_aloadN W90 at_71 (v := (.ref a1)) rfl rfl (pc' := 72) rfl ?_
    refine o_acmpne W90 ner at_72 (by decide) (pq := 77) (by decide) ?_
    refine o_aload W90 at_77 (v := (.ref r90)) rfl rfl (pc' := 79) rfl ?_
    refine o_arraylength W90 AR at_79 (pc' := 80) rfl ?_
    intro v91 hv91
    obtain rfl : v91 = (3 : Int32) := o_eq (y := (3 : Int32)) hv91
    refine o_iconst W90 (v := (4 : Int32)) at_80 rfl (pc' := 81) rfl ?_
    refine o_iload W90 at_81 (v := (1 : Int32)) rfl (pc' := 83) rfl ?_
    refine o_isub W90 at_83 (pc' := 84) rfl ?_
    show OF _ _ _ _ _ _ _ T90 (mkF m 84 #[.val (.int x0), .val (.int x1), .val (.int x2), .val (.ref a1), .val (.int (1 : Int32)), .val (.ref a87), .val (.ref r90)] [(.int (3 : Int32)), (.int (3 : Int32))])
    refine o_icmp_eq W90 at_84 (by decide) (pq := 89) (by decide) (pc' := 87) rfl (fun hc84 => ?_) (fun hc84 => ?_)
    · refine o_aload W90 at_89 (v := (.ref r90)) rfl rfl (pc' := 91) rfl ?_
      refine o_iconst W90 (v := (0 : Int32)) at_91 rfl (pc' := 92) rfl ?_
      refine o_iloadN W90 at_92 (v := x1) rfl (pc' := 93) rfl ?_
      refine o_iload W90 at_93 (v := (1 : Int32)) rfl (pc' := 95) rfl ?_
      refine o_callSI W90 (rm10 l Z a0 hw r90 (0 : Int32) x1 (1 : Int32) h90 n0 W90.le _ 0 AR rfl (fun _ => rfl)) (ow hw 49 rfl) (ow hw 50 rfl) (ow hw 3 rfl) (ow hw 51 rfl) (by decide) (argsL := [(.ref r90), (.int (0 : Int32)), (.int x1), (.int (1 : Int32))]) (S := []) (lenOf own_pd7 rfl) rfl rfl rfl (wt := 0) rfl (by decide) (by decide) (by decide) (by decide) (kk' := 3) rfl (nn' := 10) rfl at_95 (pc' := 98) rfl ?_
      intro r92 T92 h92 W92 q92 z92
      obtain ⟨q92, rfl⟩ := q92
      have hr92 : r92.toInt = 1 := by rw [q92]; rfl
      refine o_if_eq W92 at_98 (by decide) (pq := 137) (by decide) (pc' := 101) rfl (fun hc98 => ?_) (fun hc98 => ?_)
      · exfalso; omega
      · refine o_aload W92 at_101 (v := (.ref r90)) rfl rfl (pc' := 103) rfl ?_
        refine o_iconst W92 (v := (1 : Int32)) at_103 rfl (pc' := 104) rfl ?_
        refine o_iloadN W92 at_104 (v := x1) rfl (pc' := 105) rfl ?_
        refine o_iload W92 at_105 (v := (1 : Int32)) rfl (pc' := 107) rfl ?_
        refine o_callSI W92 (rm10 l Z a0 hw r90 (1 : Int32) x1 (1 : Int32) h90 n0 W92.le _ 1 AR rfl (fun _ => rfl)) (ow hw 49 rfl) (ow hw 50 rfl) (ow hw 3 rfl) (ow hw 51 rfl) (by decide) (argsL := [(.ref r90), (.int (1 : Int32)), (.int x1), (.int (1 : Int32))]) (S := []) (lenOf own_pd7 rfl) rfl rfl rfl (wt := 0) rfl (by decide) (by decide) (by decide) (by decide) (kk' := 3) rfl (nn' := 10) rfl at_107 (pc' := 110) rfl ?_
        intro r93 T93 h93 W93 q93 z93
        obtain ⟨q93, rfl⟩ := q93
        have hr93 : r93.toInt = 1 := by rw [q93]; rfl
        refine o_if_eq W93 at_110 (by decide) (pq := 137) (by decide) (pc' := 113) rfl (fun hc110 => ?_) (fun hc110 => ?_)
        · exfalso; omega
        · refine o_aload W93 at_113 (v := (.ref r90)) rfl rfl (pc' := 115) rfl ?_
          refine o_iconst W93 (v := (2 : Int32)) at_115 rfl (pc' := 116) rfl ?_
          refine o_iloadN W93 at_116 (v := x1) rfl (pc' := 117) rfl ?_
          refine o_iload W93 at_117 (v := (1 : Int32)) rfl (pc' := 119) rfl ?_
          refine o_callSI W93 (rm10 l Z a0 hw r90 (2 : Int32) x1 (1 : Int32) h90 n0 W93.le _ 2 AR rfl (fun _ => rfl)) (ow hw 49 rfl) (ow hw 50 rfl) (ow hw 3 rfl) (ow hw 51 rfl) (by decide) (argsL := [(.ref r90), (.int (2 : Int32)), (.int x1), (.int (1 : Int32))]) (S := []) (lenOf own_pd7 rfl) rfl rfl rfl (wt := 0) rfl (by decide) (by decide) (by decide) (by decide) (kk' := 3) rfl (nn' := 10) rfl at_119 (pc' := 122) rfl ?_
          intro r94 T94 h94 W94 q94 z94
          obtain ⟨q94, rfl⟩ := q94
          have hr94 : r94.toInt = 1 := by rw [q94]; rfl
          refine o_if_eq W94 at_122 (by decide) (pq := 137) (by decide) (pc' := 125) rfl (fun hc122 => ?_) (fun hc122 => ?_)
          · exfalso; omega
          · refine o_aload W94 at_125 (v := (.ref r90)) rfl rfl (pc' := 127) rfl ?_
            refine o_iconst W94 (v := (3 : Int32)) at_127 rfl (pc' := 128) rfl ?_
            refine o_iloadN W94 at_128 (v := x1) rfl (pc' := 129) rfl ?_
            refine o_iload W94 at_129 (v := (1 : Int32)) rfl (pc' := 131) rfl ?_
            refine o_callSI W94 (rm10 l Z a0 hw r90 (3 : Int32) x1 (1 : Int32) h90 n0 W94.le _ 3 AR rfl (fun q => absurd q (Nat.not_lt.mpr (Nat.le_of_ble_eq_true rfl)))) (ow hw 49 rfl) (ow hw 50 rfl) (ow hw 3 rfl) (ow hw 51 rfl) (by decide) (argsL := [(.ref r90), (.int (3 : Int32)), (.int x1), (.int (1 : Int32))]) (S := []) (lenOf own_pd7 rfl) rfl rfl rfl (wt := 0) rfl (by decide) (by decide) (by decide) (by decide) (kk' := 3) rfl (nn' := 10) rfl at_131 (pc' := 134) rfl ?_
            intro r95 T95 h95 W95 q95 z95
            obtain ⟨q95, rfl⟩ := q95
            have hr95 : r95.toInt = 1 := by rw [q95]; rfl
            refine o_if_ne W95 at_134 (by decide) (pq := 139) (by decide) (pc' := 137) rfl (fun hc134 => ?_) (fun hc134 => ?_)
            · refine o_aloadN W95 at_139 (v := (.ref a1)) rfl rfl (pc' := 140) rfl ?_
              refine o_iconst W95 (v := (0 : Int32)) at_140 rfl (pc' := 141) rfl ?_
              refine o_baload W95 A6 at_141 (pc' := 142) rfl (i := 0) (v := (own_ba x1 (0 : Int32))) rfl rfl ?_
              refine o_iloadN W95 at_142 (v := x1) rfl (pc' := 143) rfl ?_
              refine o_iconst W95 (v := (0 : Int32)) at_143 rfl (pc' := 144) rfl ?_
              refine o_callSI W95 (rm1 l Z a0 hw x1 (0 : Int32) h90 n0 W95.le) (ow hw 1 rfl) (ow hw 2 rfl) (ow hw 3 rfl) (ow hw 4 rfl) (by decide) (argsL := [(.int x1), (.int (0 : Int32))]) (S := [(.int (own_ba x1 (0 : Int32)))]) (lenOf own_pd4 rfl) rfl rfl rfl (wt := 1) rfl (by decide) (by decide) (by decide) (by decide) (kk' := 3) rfl (nn' := 10) rfl at_144 (pc' := 147) rfl ?_
              intro r96 T96 h96 W96 q96 z96
              obtain ⟨q96, rfl⟩ := q96
              subst q96
              refine o_icmp_ne W96 at_147 (by decide) (pq := 187) (by decide) (pc' := 150) rfl (fun hc147 => ?_) (fun hc147 => ?_)
              · exact absurd rfl hc147
              · refine o_aloadN W96 at_150 (v := (.ref a1)) rfl rfl (pc' := 151) rfl ?_
                refine o_iconst W96 (v := (1 : Int32)) at_151 rfl (pc' := 152) rfl ?_
                refine o_baload W96 A6 at_152 (pc' := 153) rfl (i := 1) (v := (own_ba x1 (1 : Int32))) rfl rfl ?_
                refine o_iloadN W96 at_153 (v := x1) rfl (pc' := 154) rfl ?_
                refine o_iconst W96 (v := (1 : Int32)) at_154 rfl (pc' := 155) rfl ?_
                refine o_callSI W96 (rm1 l Z a0 hw x1 (1 : Int32) h90 n0 W96.le) (ow hw 1 rfl) (ow hw 2 rfl) (ow hw 3 rfl) (ow hw 4 rfl) (by decide) (argsL := [(.int x1), (.int (1 : Int32))]) (S := [(.int (own_ba x1 (1 : Int32)))]) (lenOf own_pd4 rfl) rfl rfl rfl (wt := 1) rfl (by decide) (by decide) (by decide) (by decide) (kk' := 3) rfl (nn' := 10) rfl at_155 (pc' := 158) rfl ?_
                intro r97 T97 h97 W97 q97 z97
                obtain ⟨q97, rfl⟩ := q97
                subst q97
                refine o_icmp_ne W97 at_158 (by decide) (pq := 187) (by decide) (pc' := 161) rfl (fun hc158 => ?_) (fun hc158 => ?_)
                · exact absurd rfl hc158
                · refine o_aloadN W97 at_161 (v := (.ref a1)) rfl rfl (pc' := 162) rfl ?_
                  refine o_iconst W97 (v := (2 : Int32)) at_162 rfl (pc' := 163) rfl ?_
                  refine o_baload W97 A6 at_163 (pc' := 164) rfl (i := 2) (v := (own_ba x1 (2 : Int32))) rfl rfl ?_
                  refine o_iloadN W97 at_164 (v := x1) rfl (pc' := 165) rfl ?_
                  refine o_iconst W97 (v := (2 : Int32)) at_165 rfl (pc' := 166) rfl ?_
                  refine o_callSI W97 (rm1 l Z a0 hw x1 (2 : Int32) h90 n0 W97.le) (ow hw 1 rfl) (ow hw 2 rfl) (ow hw 3 rfl) (ow hw 4 rfl) (by decide) (argsL := [(.int x1), (.int (2 : Int32))]) (S := [(.int (own_ba x1 (2 : Int32)))]) (lenOf own_pd4 rfl) rfl rfl rfl (wt := 1) rfl (by decide) (by decide) (by decide) (by decide) (kk' := 3) rfl (nn' := 10) rfl at_166 (pc' := 169) rfl ?_
                  intro r98 T98 h98 W98 q98 z98
                  obtain ⟨q98, rfl⟩ := q98
                  subst q98
                  refine o_icmp_ne W98 at_169 (by decide) (pq := 187) (by decide) (pc' := 172) rfl (fun hc169 => ?_) (fun hc169 => ?_)
                  · exact absurd rfl hc169
                  · refine o_aloadN W98 at_172 (v := (.ref a1)) rfl rfl (pc' := 173) rfl ?_
                    refine o_iconst W98 (v := (3 : Int32)) at_173 rfl (pc' := 174) rfl ?_
                    refine o_baload W98 A6 at_174 (pc' := 175) rfl (i := 3) (v := (own_ba x1 (3 : Int32))) rfl rfl ?_
                    refine o_iloadN W98 at_175 (v := x1) rfl (pc' := 176) rfl ?_
                    refine o_iconst W98 (v := (3 : Int32)) at_176 rfl (pc' := 177) rfl ?_
                    refine o_callSI W98 (rm1 l Z a0 hw x1 (3 : Int32) h90 n0 W98.le) (ow hw 1 rfl) (ow hw 2 rfl) (ow hw 3 rfl) (ow hw 4 rfl) (by decide) (argsL := [(.int x1), (.int (3 : Int32))]) (S := [(.int (own_ba x1 (3 : Int32)))]) (lenOf own_pd4 rfl) rfl rfl rfl (wt := 1) rfl (by decide) (by decide) (by decide) (by decide) (kk' := 3) rfl (nn' := 10) rfl at_177 (pc' := 180) rfl ?_
                    intro r99 T99 h99 W99 q99 z99
                    obtain ⟨q99, rfl⟩ := q99
                    subst q99
                    refine o_icmp_ne W99 at_180 (by decide) (pq := 187) (by decide) (pc' := 183) rfl (fun hc180 => ?_) (fun hc180 => ?_)
                    · exact absurd rfl hc180
                    · refine o_iconst W99 (v := (1 : Int32)) at_183 rfl (pc' := 184) rfl ?_
                      refine o_goto W99 at_184 (by decide) (pq := 188) (by decide) ?_
                      refine o_retN W99 (t := .boolean) rfl (by simp) at_188 (by decide) (by decide) ?_
                      exact rfl
            · exfalso; omega
    · exact absurd hc84 (by decide)
  · refine o_new W72 (ow hw 6 rfl) (ow hw 7 rfl) (ow hw 8 rfl) at_44 (pc' := 47) rfl (by decide) (by decide) (kk' := 2) rfl (nn' := 7) rfl ?_
    intro T101 h101 a100 W101 E101 g_a100 X_a100 D_a100
    have b_a100 : n0 ≤ a100 := by rw [g_a100]; exact W72.le
    have ne_a1_a100 : a1 ≠ a100 := Nat.ne_of_lt (Nat.lt_of_lt_of_le A4.lt (Nat.le_of_eq g_a100.symm))
    have A_a1_101 := A4.ext E101
    have ne_a1_a100 : a1 ≠ a100 := Nat.ne_of_lt (Nat.lt_of_lt_of_le X_a1_72.lt (Nat.le_of_eq g_a100.symm))
    have X_a1_101 := Exa.ext E101 X_a1_72
    have F_tag_a100 : Fld Z h101 a100 "com/example/austere_access/austereaccess/crypto/Der$Value" "tag" "I" (.int (0 : Int32)) := D_a100 (Or.inr (ow hw 21 rfl)) (ty := .int) (by decide)
    have F_encoding_a100 : Fld Z h101 a100 "com/example/austere_access/austereaccess/crypto/Der$Value" "encoding" "[B" .null := D_a100 (Or.inr (ow hw 23 rfl)) (ty := (.array .byte)) (by decide)
    have F_header_a100 : Fld Z h101 a100 "com/example/austere_access/austereaccess/crypto/Der$Value" "header" "I" (.int (0 : Int32)) := D_a100 (Or.inr (ow hw 25 rfl)) (ty := .int) (by decide)
    refine o_dup W101 at_47 rfl (pc' := 48) rfl ?_
    refine o_iloadN W101 at_48 (v := x0) rfl (pc' := 49) rfl ?_
    refine o_aloadN W101 at_49 (v := (.ref a1)) rfl rfl (pc' := 50) rfl ?_
    refine o_iload W101 at_50 (v := (2 : Int32)) rfl (pc' := 52) rfl ?_
    refine o_callC W101 (rm2 l Z a0 hw a100 x0 a1 (2 : Int32) h101 n0 W101.le X_a100 F_tag_a100 F_encoding_a100 F_header_a100 b_a100) rfl (ow hw 9 rfl) (ow hw 10 rfl) (ow hw 8 rfl) (ow hw 11 rfl) (by decide) (argsL := [(.int x0), (.ref a1), (.int (2 : Int32))]) (S := [(.ref a100)]) (lenOf own_pd5 rfl) rfl rfl rfl (wt := 1) rfl (by decide) (by decide) (by decide) (by decide) (kk' := 2) rfl (nn' := 7) rfl at_52 (pc' := 55) rfl ?_
    intro T102 h102 W102 q102 z102
    obtain ⟨X_a100_102, Fe, Fh, KC⟩ := q102
    have A5 := A_a1_101.keep1 KC ne_a1_a100
    have X5 := Exa.keep X_a1_101 KC
    refine o_astore W102 (L' := #[.val (.int x0), .val (.int x1), .val (.int x2), .val (.ref a1), .val (.int (2 : Int32)), .val (.ref a100), .unset]) at_55 rfl rfl (pc' := 57) rfl ?_
    refine o_aload W102 at_57 (v := (.ref a100)) rfl rfl (pc' := 59) rfl ?_
    refine o_callV W102 X_a100_102 (rm5_2 l Z a0 hw a100 h102 n0 W102.le a1 _ _ _ _ A5 X5 Fe Fh) (ow hw 26 rfl) (ow hw 27 rfl) (notFace_of_selects (args := #[]) (mvT W102.hZ (ow hw 29 rfl))) (ow hw 29 rfl) (ow hw 28 rfl) (ow hw 8 rfl) (ow hw 30 rfl) (by decide) (argsL := []) (S := []) (lenOf own_pd6 rfl) rfl rfl rfl (wt := 0) rfl (by decide) (by decide) (by decide) (by decide) (kk' := 3) rfl (nn' := 9) rfl at_59 (pc' := 62) rfl ?_
    intro vv T103 h103 W103 q103 z103
    obtain ⟨r103, rfl, q103⟩ := q103
    show OF _ _ _ _ _ _ _ T103 (mkF m 62 #[.val (.int x0), .val (.int x1), .val (.int x2), .val (.ref a1), .val (.int (2 : Int32)), .val (.ref a100), .unset] [(.ref r103)])
    obtain ⟨gr, KR, AR⟩ := q103
    have A6 := A5.keep KR nin0
    have ner : r103 ≠ a1 := (Nat.ne_of_lt (Nat.lt_of_lt_of_le A5.lt (Nat.le_of_eq gr.symm))).symm
    refine o_astore W103 (L' := #[.val (.int x0), .val (.int x1), .val (.int x2), .val (.ref a1), .val (.int (2 : Int32)), .val (.ref a100), .val (.ref r103)]) at_62 rfl rfl (pc' := 64) rfl ?_
    refine o_aload W103 at_64 (v := (.ref r103)) rfl rfl (pc' := 66) rfl ?_
    refine o_ifnullNo W103 at_66 (pc' := 69) rfl ?_
    refine o_aload W103 at_69 (v := (.ref r103)) rfl rfl (pc' := 71) rfl ?_
    refine o_aloadN W103 at_71 (v := (.ref a1)) rfl rfl (pc' := 72) rfl ?_
    refine o_acmpne W103 ner at_72 (by decide) (pq := 77) (by decide) ?_
    refine o_aload W103 at_77 (v := (.ref r103)) rfl rfl (pc' := 79) rfl ?_
    refine o_arraylength W103 AR at_79 (pc' := 80) rfl ?_
    intro v104 hv104
    obtain rfl : v104 = (2 : Int32) := o_eq (y := (2 : Int32)) hv104
    refine o_iconst W103 (v := (4 : Int32)) at_80 rfl (pc' := 81) rfl ?_
    refine o_iload W103 at_81 (v := (2 : Int32)) rfl (pc' := 83) rfl ?_
    refine o_isub W103 at_83 (pc' := 84) rfl ?_
    show OF _ _ _ _ _ _ _ T103 (mkF m 84 #[.val (.int x0), .val (.int x1), .val (.int x2), .val (.ref a1), .val (.int (2 : Int32)), .val (.ref a100), .val (.ref r103)] [(.int (2 : Int32)), (.int (2 : Int32))])
    refine o_icmp_eq W103 at_84 (by decide) (pq := 89) (by decide) (pc' := 87) rfl (fun hc84 => ?_) (fun hc84 => ?_)
    · refine o_aload W103 at_89 (v := (.ref r103)) rfl rfl (pc' := 91) rfl ?_
      refine o_iconst W103 (v := (0 : Int32)) at_91 rfl (pc' := 92) rfl ?_
      refine o_iloadN W103 at_92 (v := x1) rfl (pc' := 93) rfl ?_
      refine o_iload W103 at_93 (v := (2 : Int32)) rfl (pc' := 95) rfl ?_
      refine o_callSI W103 (rm10 l Z a0 hw r103 (0 : Int32) x1 (2 : Int32) h103 n0 W103.le _ 0 AR rfl (fun _ => rfl)) (ow hw 49 rfl) (ow hw 50 rfl) (ow hw 3 rfl) (ow hw 51 rfl) (by decide) (argsL := [(.ref r103), (.int (0 : Int32)), (.int x1), (.int (2 : Int32))]) (S := []) (lenOf own_pd7 rfl) rfl rfl rfl (wt := 0) rfl (by decide) (by decide) (by decide) (by decide) (kk' := 3) rfl (nn' := 9) rfl at_95 (pc' := 98) rfl ?_
      intro r105 T105 h105 W105 q105 z105
      obtain ⟨q105, rfl⟩ := q105
      have hr105 : r105.toInt = 1 := by rw [q105]; rfl
      refine o_if_eq W105 at_98 (by decide) (pq := 137) (by decide) (pc' := 101) rfl (fun hc98 => ?_) (fun hc98 => ?_)
      · exfalso; omega
      · refine o_aload W105 at_101 (v := (.ref r103)) rfl rfl (pc' := 103) rfl ?_
        refine o_iconst W105 (v := (1 : Int32)) at_103 rfl (pc' := 104) rfl ?_
        refine o_iloadN W105 at_104 (v := x1) rfl (pc' := 105) rfl ?_
        refine o_iload W105 at_105 (v := (2 : Int32)) rfl (pc' := 107) rfl ?_
        refine o_callSI W105 (rm10 l Z a0 hw r103 (1 : Int32) x1 (2 : Int32) h103 n0 W105.le _ 1 AR rfl (fun _ => rfl)) (ow hw 49 rfl) (ow hw 50 rfl) (ow hw 3 rfl) (ow hw 51 rfl) (by decide) (argsL := [(.ref r103), (.int (1 : Int32)), (.int x1), (.int (2 : Int32))]) (S := []) (lenOf own_pd7 rfl) rfl rfl rfl (wt := 0) rfl (by decide) (by decide) (by decide) (by decide) (kk' := 3) rfl (nn' := 9) rfl at_107 (pc' := 110) rfl ?_
        intro r106 T106 h106 W106 q106 z106
        obtain ⟨q106, rfl⟩ := q106
        have hr106 : r106.toInt = 1 := by rw [q106]; rfl
        refine o_if_eq W106 at_110 (by decide) (pq := 137) (by decide) (pc' := 113) rfl (fun hc110 => ?_) (fun hc110 => ?_)
        · exfalso; omega
        · refine o_aload W106 at_113 (v := (.ref r103)) rfl rfl (pc' := 115) rfl ?_
          refine o_iconst W106 (v := (2 : Int32)) at_115 rfl (pc' := 116) rfl ?_
          refine o_iloadN W106 at_116 (v := x1) rfl (pc' := 117) rfl ?_
          refine o_iload W106 at_117 (v := (2 : Int32)) rfl (pc' := 119) rfl ?_
          refine o_callSI W106 (rm10 l Z a0 hw r103 (2 : Int32) x1 (2 : Int32) h103 n0 W106.le _ 2 AR rfl (fun q => absurd q (Nat.not_lt.mpr (Nat.le_of_ble_eq_true rfl)))) (ow hw 49 rfl) (ow hw 50 rfl) (ow hw 3 rfl) (ow hw 51 rfl) (by decide) (argsL := [(.ref r103), (.int (2 : Int32)), (.int x1), (.int (2 : Int32))]) (S := []) (lenOf own_pd7 rfl) rfl rfl rfl (wt := 0) rfl (by decide) (by decide) (by decide) (by decide) (kk' := 3) rfl (nn' := 9) rfl at_119 (pc' := 122) rfl ?_
          intro r107 T107 h107 W107 q107 z107
          obtain ⟨q107, rfl⟩ := q107
          have hr107 : r107.toInt = 1 := by rw [q107]; rfl
          refine o_if_eq W107 at_122 (by decide) (pq := 137) (by decide) (pc' := 125) rfl (fun hc122 => ?_) (fun hc122 => ?_)
          · exfalso; omega
          · refine o_aload W107 at_125 (v := (.ref r103)) rfl rfl (pc' := 127) rfl ?_
            refine o_iconst W107 (v := (3 : Int32)) at_127 rfl (pc' := 128) rfl ?_
            refine o_iloadN W107 at_128 (v := x1) rfl (pc' := 129) rfl ?_
            refine o_iload W107 at_129 (v := (2 : Int32)) rfl (pc' := 131) rfl ?_
            refine o_callSI W107 (rm10 l Z a0 hw r103 (3 : Int32) x1 (2 : Int32) h103 n0 W107.le _ 3 AR rfl (fun q => absurd q (Nat.not_lt.mpr (Nat.le_of_ble_eq_true rfl)))) (ow hw 49 rfl) (ow hw 50 rfl) (ow hw 3 rfl) (ow hw 51 rfl) (by decide) (argsL := [(.ref r103), (.int (3 : Int32)), (.int x1), (.int (2 : Int32))]) (S := []) (lenOf own_pd7 rfl) rfl rfl rfl (wt := 0) rfl (by decide) (by decide) (by decide) (by decide) (kk' := 3) rfl (nn' := 9) rfl at_131 (pc' := 134) rfl ?_
            intro r108 T108 h108 W108 q108 z108
            obtain ⟨q108, rfl⟩ := q108
            have hr108 : r108.toInt = 1 := by rw [q108]; rfl
            refine o_if_ne W108 at_134 (by decide) (pq := 139) (by decide) (pc' := 137) rfl (fun hc134 => ?_) (fun hc134 => ?_)
            · refine o_aloadN W108 at_139 (v := (.ref a1)) rfl rfl (pc' := 140) rfl ?_
              refine o_iconst W108 (v := (0 : Int32)) at_140 rfl (pc' := 141) rfl ?_
              refine o_baload W108 A6 at_141 (pc' := 142) rfl (i := 0) (v := (own_ba x1 (0 : Int32))) rfl rfl ?_
              refine o_iloadN W108 at_142 (v := x1) rfl (pc' := 143) rfl ?_
              refine o_iconst W108 (v := (0 : Int32)) at_143 rfl (pc' := 144) rfl ?_
              refine o_callSI W108 (rm1 l Z a0 hw x1 (0 : Int32) h103 n0 W108.le) (ow hw 1 rfl) (ow hw 2 rfl) (ow hw 3 rfl) (ow hw 4 rfl) (by decide) (argsL := [(.int x1), (.int (0 : Int32))]) (S := [(.int (own_ba x1 (0 : Int32)))]) (lenOf own_pd4 rfl) rfl rfl rfl (wt := 1) rfl (by decide) (by decide) (by decide) (by decide) (kk' := 3) rfl (nn' := 9) rfl at_144 (pc' := 147) rfl ?_
              intro r109 T109 h109 W109 q109 z109
              obtain ⟨q109, rfl⟩ := q109
              subst q109
              refine o_icmp_ne W109 at_147 (by decide) (pq := 187) (by decide) (pc' := 150) rfl (fun hc147 => ?_) (fun hc147 => ?_)
              · exact absurd rfl hc147
              · refine o_aloadN W109 at_150 (v := (.ref a1)) rfl rfl (pc' := 151) rfl ?_
                refine o_iconst W109 (v := (1 : Int32)) at_151 rfl (pc' := 152) rfl ?_
                refine o_baload W109 A6 at_152 (pc' := 153) rfl (i := 1) (v := (own_ba x1 (1 : Int32))) rfl rfl ?_
                refine o_iloadN W109 at_153 (v := x1) rfl (pc' := 154) rfl ?_
                refine o_iconst W109 (v := (1 : Int32)) at_154 rfl (pc' := 155) rfl ?_
                refine o_callSI W109 (rm1 l Z a0 hw x1 (1 : Int32) h103 n0 W109.le) (ow hw 1 rfl) (ow hw 2 rfl) (ow hw 3 rfl) (ow hw 4 rfl) (by decide) (argsL := [(.int x1), (.int (1 : Int32))]) (S := [(.int (own_ba x1 (1 : Int32)))]) (lenOf own_pd4 rfl) rfl rfl rfl (wt := 1) rfl (by decide) (by decide) (by decide) (by decide) (kk' := 3) rfl (nn' := 9) rfl at_155 (pc' := 158) rfl ?_
                intro r110 T110 h110 W110 q110 z110
                obtain ⟨q110, rfl⟩ := q110
                subst q110
                refine o_icmp_ne W110 at_158 (by decide) (pq := 187) (by decide) (pc' := 161) rfl (fun hc158 => ?_) (fun hc158 => ?_)
                · exact absurd rfl hc158
                · refine o_aloadN W110 at_161 (v := (.ref a1)) rfl rfl (pc' := 162) rfl ?_
                  refine o_iconst W110 (v := (2 : Int32)) at_162 rfl (pc' := 163) rfl ?_
                  refine o_baload W110 A6 at_163 (pc' := 164) rfl (i := 2) (v := (own_ba x1 (2 : Int32))) rfl rfl ?_
                  refine o_iloadN W110 at_164 (v := x1) rfl (pc' := 165) rfl ?_
                  refine o_iconst W110 (v := (2 : Int32)) at_165 rfl (pc' := 166) rfl ?_
                  refine o_callSI W110 (rm1 l Z a0 hw x1 (2 : Int32) h103 n0 W110.le) (ow hw 1 rfl) (ow hw 2 rfl) (ow hw 3 rfl) (ow hw 4 rfl) (by decide) (argsL := [(.int x1), (.int (2 : Int32))]) (S := [(.int (own_ba x1 (2 : Int32)))]) (lenOf own_pd4 rfl) rfl rfl rfl (wt := 1) rfl (by decide) (by decide) (by decide) (by decide) (kk' := 3) rfl (nn' := 9) rfl at_166 (pc' := 169) rfl ?_
                  intro r111 T111 h111 W111 q111 z111
                  obtain ⟨q111, rfl⟩ := q111
                  subst q111
                  refine o_icmp_ne W111 at_169 (by decide) (pq := 187) (by decide) (pc' := 172) rfl (fun hc169 => ?_) (fun hc169 => ?_)
                  · exact absurd rfl hc169
                  · refine o_aloadN W111 at_172 (v := (.ref a1)) rfl rfl (pc' := 173) rfl ?_
                    refine o_iconst W111 (v := (3 : Int32)) at_173 rfl (pc' := 174) rfl ?_
                    refine o_baload W111 A6 at_174 (pc' := 175) rfl (i := 3) (v := (own_ba x1 (3 : Int32))) rfl rfl ?_
                    refine o_iloadN W111 at_175 (v := x1) rfl (pc' := 176) rfl ?_
                    refine o_iconst W111 (v := (3 : Int32)) at_176 rfl (pc' := 177) rfl ?_
                    refine o_callSI W111 (rm1 l Z a0 hw x1 (3 : Int32) h103 n0 W111.le) (ow hw 1 rfl) (ow hw 2 rfl) (ow hw 3 rfl) (ow hw 4 rfl) (by decide) (argsL := [(.int x1), (.int (3 : Int32))]) (S := [(.int (own_ba x1 (3 : Int32)))]) (lenOf own_pd4 rfl) rfl rfl rfl (wt := 1) rfl (by decide) (by decide) (by decide) (by decide) (kk' := 3) rfl (nn' := 9) rfl at_177 (pc' := 180) rfl ?_
                    intro r112 T112 h112 W112 q112 z112
                    obtain ⟨q112, rfl⟩ := q112
                    subst q112
                    refine o_icmp_ne W112 at_180 (by decide) (pq := 187) (by decide) (pc' := 183) rfl (fun hc180 => ?_) (fun hc180 => ?_)
                    · exact absurd rfl hc180
                    · refine o_iconst W112 (v := (1 : Int32)) at_183 rfl (pc' := 184) rfl ?_
                      refine o_goto W112 at_184 (by decide) (pq := 188) (by decide) ?_
                      refine o_retN W112 (t := .boolean) rfl (by simp) at_188 (by decide) (by decide) ?_
                      exact rfl
            · exfalso; omega
    · exact absurd hc84 (by decide)
  · refine o_new W72 (ow hw 6 rfl) (ow hw 7 rfl) (ow hw 8 rfl) at_44 (pc' := 47) rfl (by decide) (by decide) (kk' := 2) rfl (nn' := 7) rfl ?_
    intro T114 h114 a113 W114 E114 g_a113 X_a113 D_a113
    have b_a113 : n0 ≤ a113 := by rw [g_a113]; exact W72.le
    have ne_a1_a113 : a1 ≠ a113 := Nat.ne_of_lt (Nat.lt_of_lt_of_le A4.lt (Nat.le_of_eq g_a113.symm))
    have A_a1_114 := A4.ext E114
    have ne_a1_a113 : a1 ≠ a113 := Nat.ne_of_lt (Nat.lt_of_lt_of_le X_a1_72.lt (Nat.le_of_eq g_a113.symm))
    have X_a1_114 := Exa.ext E114 X_a1_72
    have F_tag_a113 : Fld Z h114 a113 "com/example/austere_access/austereaccess/crypto/Der$Value" "tag" "I" (.int (0 : Int32)) := D_a113 (Or.inr (ow hw 21 rfl)) (ty := .int) (by decide)
    have F_encoding_a113 : Fld Z h114 a113 "com/example/austere_access/austereaccess/crypto/Der$Value" "encoding" "[B" .null := D_a113 (Or.inr (ow hw 23 rfl)) (ty := (.array .byte)) (by decide)
    have F_header_a113 : Fld Z h114 a113 "com/example/austere_access/austereaccess/crypto/Der$Value" "header" "I" (.int (0 : Int32)) := D_a113 (Or.inr (ow hw 25 rfl)) (ty := .int) (by decide)
    refine o_dup W114 at_47 rfl (pc' := 48) rfl ?_
    refine o_iloadN W114 at_48 (v := x0) rfl (pc' := 49) rfl ?_
    refine o_aloadN W114 at_49 (v := (.ref a1)) rfl rfl (pc' := 50) rfl ?_
    refine o_iload W114 at_50 (v := (3 : Int32)) rfl (pc' := 52) rfl ?_
    refine o_callC W114 (rm2 l Z a0 hw a113 x0 a1 (3 : Int32) h114 n0 W114.le X_a113 F_tag_a113 F_encoding_a113 F_header_a113 b_a113) rfl (ow hw 9 rfl) (ow hw 10 rfl) (ow hw 8 rfl) (ow hw 11 rfl) (by decide) (argsL := [(.int x0), (.ref a1), (.int (3 : Int32))]) (S := [(.ref a113)]) (lenOf own_pd5 rfl) rfl rfl rfl (wt := 1) rfl (by decide) (by decide) (by decide) (by decide) (kk' := 2) rfl (nn' := 7) rfl at_52 (pc' := 55) rfl ?_
    intro T115 h115 W115 q115 z115
    obtain ⟨X_a113_115, Fe, Fh, KC⟩ := q115
    have A5 := A_a1_114.keep1 KC ne_a1_a113
    have X5 := Exa.keep X_a1_114 KC
    refine o_astore W115 (L' := #[.val (.int x0), .val (.int x1), .val (.int x2), .val (.ref a1), .val (.int (3 : Int32)), .val (.ref a113), .unset]) at_55 rfl rfl (pc' := 57) rfl ?_
    refine o_aload W115 at_57 (v := (.ref a113)) rfl rfl (pc' := 59) rfl ?_
    refine o_callV W115 X_a113_115 (rm5_3 l Z a0 hw a113 h115 n0 W115.le a1 _ _ _ _ A5 X5 Fe Fh) (ow hw 26 rfl) (ow hw 27 rfl) (notFace_of_selects (args := #[]) (mvT W115.hZ (ow hw 29 rfl))) (ow hw 29 rfl) (ow hw 28 rfl) (ow hw 8 rfl) (ow hw 30 rfl) (by decide) (argsL := []) (S := []) (lenOf own_pd6 rfl) rfl rfl rfl (wt := 0) rfl (by decide) (by decide) (by decide) (by decide) (kk' := 3) rfl (nn' := 8) rfl at_59 (pc' := 62) rfl ?_
    intro vv T116 h116 W116 q116 z116
    obtain ⟨r116, rfl, q116⟩ := q116
    show OF _ _ _ _ _ _ _ T116 (mkF m 62 #[.val (.int x0), .val (.int x1), .val (.int x2), .val (.ref a1), .val (.int (3 : Int32)), .val (.ref a113), .unset] [(.ref r116)])
    obtain ⟨gr, KR, AR⟩ := q116
    have A6 := A5.keep KR nin0
    have ner : r116 ≠ a1 := (Nat.ne_of_lt (Nat.lt_of_lt_of_le A5.lt (Nat.le_of_eq gr.symm))).symm
    refine o_astore W116 (L' := #[.val (.int x0), .val (.int x1), .val (.int x2), .val (.ref a1), .val (.int (3 : Int32)), .val (.ref a113), .val (.ref r116)]) at_62 rfl rfl (pc' := 64) rfl ?_
    refine o_aload W116 at_64 (v := (.ref r116)) rfl rfl (pc' := 66) rfl ?_
    refine o_ifnullNo W116 at_66 (pc' := 69) rfl ?_
    refine o_aload W116 at_69 (v := (.ref r116)) rfl rfl (pc' := 71) rfl ?_
    refine o_aloadN W116 at_71 (v := (.ref a1)) rfl rfl (pc' := 72) rfl ?_
    refine o_acmpne W116 ner at_72 (by decide) (pq := 77) (by decide) ?_
    refine o_aload W116 at_77 (v := (.ref r116)) rfl rfl (pc' := 79) rfl ?_
    refine o_arraylength W116 AR at_79 (pc' := 80) rfl ?_
    intro v117 hv117
    obtain rfl : v117 = (1 : Int32) := o_eq (y := (1 : Int32)) hv117
    refine o_iconst W116 (v := (4 : Int32)) at_80 rfl (pc' := 81) rfl ?_
    refine o_iload W116 at_81 (v := (3 : Int32)) rfl (pc' := 83) rfl ?_
    refine o_isub W116 at_83 (pc' := 84) rfl ?_
    show OF _ _ _ _ _ _ _ T116 (mkF m 84 #[.val (.int x0), .val (.int x1), .val (.int x2), .val (.ref a1), .val (.int (3 : Int32)), .val (.ref a113), .val (.ref r116)] [(.int (1 : Int32)), (.int (1 : Int32))])
    refine o_icmp_eq W116 at_84 (by decide) (pq := 89) (by decide) (pc' := 87) rfl (fun hc84 => ?_) (fun hc84 => ?_)
    · refine o_aload W116 at_89 (v := (.ref r116)) rfl rfl (pc' := 91) rfl ?_
      refine o_iconst W116 (v := (0 : Int32)) at_91 rfl (pc' := 92) rfl ?_
      refine o_iloadN W116 at_92 (v := x1) rfl (pc' := 93) rfl ?_
      refine o_iload W116 at_93 (v := (3 : Int32)) rfl (pc' := 95) rfl ?_
      refine o_callSI W116 (rm10 l Z a0 hw r116 (0 : Int32) x1 (3 : Int32) h116 n0 W116.le _ 0 AR rfl (fun _ => rfl)) (ow hw 49 rfl) (ow hw 50 rfl) (ow hw 3 rfl) (ow hw 51 rfl) (by decide) (argsL := [(.ref r116), (.int (0 : Int32)), (.int x1), (.int (3 : Int32))]) (S := []) (lenOf own_pd7 rfl) rfl rfl rfl (wt := 0) rfl (by decide) (by decide) (by decide) (by decide) (kk' := 3) rfl (nn' := 8) rfl at_95 (pc' := 98) rfl ?_
      intro r118 T118 h118 W118 q118 z118
      obtain ⟨q118, rfl⟩ := q118
      have hr118 : r118.toInt = 1 := by rw [q118]; rfl
      refine o_if_eq W118 at_98 (by decide) (pq := 137) (by decide) (pc' := 101) rfl (fun hc98 => ?_) (fun hc98 => ?_)
      · exfalso; omega
      · refine o_aload W118 at_101 (v := (.ref r116)) rfl rfl (pc' := 103) rfl ?_
        refine o_iconst W118 (v := (1 : Int32)) at_103 rfl (pc' := 104) rfl ?_
        refine o_iloadN W118 at_104 (v := x1) rfl (pc' := 105) rfl ?_
        refine o_iload W118 at_105 (v := (3 : Int32)) rfl (pc' := 107) rfl ?_
        refine o_callSI W118 (rm10 l Z a0 hw r116 (1 : Int32) x1 (3 : Int32) h116 n0 W118.le _ 1 AR rfl (fun q => absurd q (Nat.not_lt.mpr (Nat.le_of_ble_eq_true rfl)))) (ow hw 49 rfl) (ow hw 50 rfl) (ow hw 3 rfl) (ow hw 51 rfl) (by decide) (argsL := [(.ref r116), (.int (1 : Int32)), (.int x1), (.int (3 : Int32))]) (S := []) (lenOf own_pd7 rfl) rfl rfl rfl (wt := 0) rfl (by decide) (by decide) (by decide) (by decide) (kk' := 3) rfl (nn' := 8) rfl at_107 (pc' := 110) rfl ?_
        intro r119 T119 h119 W119 q119 z119
        obtain ⟨q119, rfl⟩ := q119
        have hr119 : r119.toInt = 1 := by rw [q119]; rfl
        refine o_if_eq W119 at_110 (by decide) (pq := 137) (by decide) (pc' := 113) rfl (fun hc110 => ?_) (fun hc110 => ?_)
        · exfalso; omega
        · refine o_aload W119 at_113 (v := (.ref r116)) rfl rfl (pc' := 115) rfl ?_
          refine o_iconst W119 (v := (2 : Int32)) at_115 rfl (pc' := 116) rfl ?_
          refine o_iloadN W119 at_116 (v := x1) rfl (pc' := 117) rfl ?_
          refine o_iload W119 at_117 (v := (3 : Int32)) rfl (pc' := 119) rfl ?_
          refine o_callSI W119 (rm10 l Z a0 hw r116 (2 : Int32) x1 (3 : Int32) h116 n0 W119.le _ 2 AR rfl (fun q => absurd q (Nat.not_lt.mpr (Nat.le_of_ble_eq_true rfl)))) (ow hw 49 rfl) (ow hw 50 rfl) (ow hw 3 rfl) (ow hw 51 rfl) (by decide) (argsL := [(.ref r116), (.int (2 : Int32)), (.int x1), (.int (3 : Int32))]) (S := []) (lenOf own_pd7 rfl) rfl rfl rfl (wt := 0) rfl (by decide) (by decide) (by decide) (by decide) (kk' := 3) rfl (nn' := 8) rfl at_119 (pc' := 122) rfl ?_
          intro r120 T120 h120 W120 q120 z120
          obtain ⟨q120, rfl⟩ := q120
          have hr120 : r120.toInt = 1 := by rw [q120]; rfl
          refine o_if_eq W120 at_122 (by decide) (pq := 137) (by decide) (pc' := 125) rfl (fun hc122 => ?_) (fun hc122 => ?_)
          · exfalso; omega
          · refine o_aload W120 at_125 (v := (.ref r116)) rfl rfl (pc' := 127) rfl ?_
            refine o_iconst W120 (v := (3 : Int32)) at_127 rfl (pc' := 128) rfl ?_
            refine o_iloadN W120 at_128 (v := x1) rfl (pc' := 129) rfl ?_
            refine o_iload W120 at_129 (v := (3 : Int32)) rfl (pc' := 131) rfl ?_
            refine o_callSI W120 (rm10 l Z a0 hw r116 (3 : Int32) x1 (3 : Int32) h116 n0 W120.le _ 3 AR rfl (fun q => absurd q (Nat.not_lt.mpr (Nat.le_of_ble_eq_true rfl)))) (ow hw 49 rfl) (ow hw 50 rfl) (ow hw 3 rfl) (ow hw 51 rfl) (by decide) (argsL := [(.ref r116), (.int (3 : Int32)), (.int x1), (.int (3 : Int32))]) (S := []) (lenOf own_pd7 rfl) rfl rfl rfl (wt := 0) rfl (by decide) (by decide) (by decide) (by decide) (kk' := 3) rfl (nn' := 8) rfl at_131 (pc' := 134) rfl ?_
            intro r121 T121 h121 W121 q121 z121
            obtain ⟨q121, rfl⟩ := q121
            have hr121 : r121.toInt = 1 := by rw [q121]; rfl
            refine o_if_ne W121 at_134 (by decide) (pq := 139) (by decide) (pc' := 137) rfl (fun hc134 => ?_) (fun hc134 => ?_)
            · refine o_aloadN W121 at_139 (v := (.ref a1)) rfl rfl (pc' := 140) rfl ?_
              refine o_iconst W121 (v := (0 : Int32)) at_140 rfl (pc' := 141) rfl ?_
              refine o_baload W121 A6 at_141 (pc' := 142) rfl (i := 0) (v := (own_ba x1 (0 : Int32))) rfl rfl ?_
              refine o_iloadN W121 at_142 (v := x1) rfl (pc' := 143) rfl ?_
              refine o_iconst W121 (v := (0 : Int32)) at_143 rfl (pc' := 144) rfl ?_
              refine o_callSI W121 (rm1 l Z a0 hw x1 (0 : Int32) h116 n0 W121.le) (ow hw 1 rfl) (ow hw 2 rfl) (ow hw 3 rfl) (ow hw 4 rfl) (by decide) (argsL := [(.int x1), (.int (0 : Int32))]) (S := [(.int (own_ba x1 (0 : Int32)))]) (lenOf own_pd4 rfl) rfl rfl rfl (wt := 1) rfl (by decide) (by decide) (by decide) (by decide) (kk' := 3) rfl (nn' := 8) rfl at_144 (pc' := 147) rfl ?_
              intro r122 T122 h122 W122 q122 z122
              obtain ⟨q122, rfl⟩ := q122
              subst q122
              refine o_icmp_ne W122 at_147 (by decide) (pq := 187) (by decide) (pc' := 150) rfl (fun hc147 => ?_) (fun hc147 => ?_)
              · exact absurd rfl hc147
              · refine o_aloadN W122 at_150 (v := (.ref a1)) rfl rfl (pc' := 151) rfl ?_
                refine o_iconst W122 (v := (1 : Int32)) at_151 rfl (pc' := 152) rfl ?_
                refine o_baload W122 A6 at_152 (pc' := 153) rfl (i := 1) (v := (own_ba x1 (1 : Int32))) rfl rfl ?_
                refine o_iloadN W122 at_153 (v := x1) rfl (pc' := 154) rfl ?_
                refine o_iconst W122 (v := (1 : Int32)) at_154 rfl (pc' := 155) rfl ?_
                refine o_callSI W122 (rm1 l Z a0 hw x1 (1 : Int32) h116 n0 W122.le) (ow hw 1 rfl) (ow hw 2 rfl) (ow hw 3 rfl) (ow hw 4 rfl) (by decide) (argsL := [(.int x1), (.int (1 : Int32))]) (S := [(.int (own_ba x1 (1 : Int32)))]) (lenOf own_pd4 rfl) rfl rfl rfl (wt := 1) rfl (by decide) (by decide) (by decide) (by decide) (kk' := 3) rfl (nn' := 8) rfl at_155 (pc' := 158) rfl ?_
                intro r123 T123 h123 W123 q123 z123
                obtain ⟨q123, rfl⟩ := q123
                subst q123
                refine o_icmp_ne W123 at_158 (by decide) (pq := 187) (by decide) (pc' := 161) rfl (fun hc158 => ?_) (fun hc158 => ?_)
                · exact absurd rfl hc158
                · refine o_aloadN W123 at_161 (v := (.ref a1)) rfl rfl (pc' := 162) rfl ?_
                  refine o_iconst W123 (v := (2 : Int32)) at_162 rfl (pc' := 163) rfl ?_
                  refine o_baload W123 A6 at_163 (pc' := 164) rfl (i := 2) (v := (own_ba x1 (2 : Int32))) rfl rfl ?_
                  refine o_iloadN W123 at_164 (v := x1) rfl (pc' := 165) rfl ?_
                  refine o_iconst W123 (v := (2 : Int32)) at_165 rfl (pc' := 166) rfl ?_
                  refine o_callSI W123 (rm1 l Z a0 hw x1 (2 : Int32) h116 n0 W123.le) (ow hw 1 rfl) (ow hw 2 rfl) (ow hw 3 rfl) (ow hw 4 rfl) (by decide) (argsL := [(.int x1), (.int (2 : Int32))]) (S := [(.int (own_ba x1 (2 : Int32)))]) (lenOf own_pd4 rfl) rfl rfl rfl (wt := 1) rfl (by decide) (by decide) (by decide) (by decide) (kk' := 3) rfl (nn' := 8) rfl at_166 (pc' := 169) rfl ?_
                  intro r124 T124 h124 W124 q124 z124
                  obtain ⟨q124, rfl⟩ := q124
                  subst q124
                  refine o_icmp_ne W124 at_169 (by decide) (pq := 187) (by decide) (pc' := 172) rfl (fun hc169 => ?_) (fun hc169 => ?_)
                  · exact absurd rfl hc169
                  · refine o_aloadN W124 at_172 (v := (.ref a1)) rfl rfl (pc' := 173) rfl ?_
                    refine o_iconst W124 (v := (3 : Int32)) at_173 rfl (pc' := 174) rfl ?_
                    refine o_baload W124 A6 at_174 (pc' := 175) rfl (i := 3) (v := (own_ba x1 (3 : Int32))) rfl rfl ?_
                    refine o_iloadN W124 at_175 (v := x1) rfl (pc' := 176) rfl ?_
                    refine o_iconst W124 (v := (3 : Int32)) at_176 rfl (pc' := 177) rfl ?_
                    refine o_callSI W124 (rm1 l Z a0 hw x1 (3 : Int32) h116 n0 W124.le) (ow hw 1 rfl) (ow hw 2 rfl) (ow hw 3 rfl) (ow hw 4 rfl) (by decide) (argsL := [(.int x1), (.int (3 : Int32))]) (S := [(.int (own_ba x1 (3 : Int32)))]) (lenOf own_pd4 rfl) rfl rfl rfl (wt := 1) rfl (by decide) (by decide) (by decide) (by decide) (kk' := 3) rfl (nn' := 8) rfl at_177 (pc' := 180) rfl ?_
                    intro r125 T125 h125 W125 q125 z125
                    obtain ⟨q125, rfl⟩ := q125
                    subst q125
                    refine o_icmp_ne W125 at_180 (by decide) (pq := 187) (by decide) (pc' := 183) rfl (fun hc180 => ?_) (fun hc180 => ?_)
                    · exact absurd rfl hc180
                    · refine o_iconst W125 (v := (1 : Int32)) at_183 rfl (pc' := 184) rfl ?_
                      refine o_goto W125 at_184 (by decide) (pq := 188) (by decide) ?_
                      refine o_retN W125 (t := .boolean) rfl (by simp) at_188 (by decide) (by decide) ?_
                      exact rfl
            · exfalso; omega
    · exact absurd hc84 (by decide)
  · refine o_new W72 (ow hw 6 rfl) (ow hw 7 rfl) (ow hw 8 rfl) at_44 (pc' := 47) rfl (by decide) (by decide) (kk' := 2) rfl (nn' := 7) rfl ?_
    intro T127 h127 a126 W127 E127 g_a126 X_a126 D_a126
    have b_a126 : n0 ≤ a126 := by rw [g_a126]; exact W72.le
    have ne_a1_a126 : a1 ≠ a126 := Nat.ne_of_lt (Nat.lt_of_lt_of_le A4.lt (Nat.le_of_eq g_a126.symm))
    have A_a1_127 := A4.ext E127
    have ne_a1_a126 : a1 ≠ a126 := Nat.ne_of_lt (Nat.lt_of_lt_of_le X_a1_72.lt (Nat.le_of_eq g_a126.symm))
    have X_a1_127 := Exa.ext E127 X_a1_72
    have F_tag_a126 : Fld Z h127 a126 "com/example/austere_access/austereaccess/crypto/Der$Value" "tag" "I" (.int (0 : Int32)) := D_a126 (Or.inr (ow hw 21 rfl)) (ty := .int) (by decide)
    have F_encoding_a126 : Fld Z h127 a126 "com/example/austere_access/austereaccess/crypto/Der$Value" "encoding" "[B" .null := D_a126 (Or.inr (ow hw 23 rfl)) (ty := (.array .byte)) (by decide)
    have F_header_a126 : Fld Z h127 a126 "com/example/austere_access/austereaccess/crypto/Der$Value" "header" "I" (.int (0 : Int32)) := D_a126 (Or.inr (ow hw 25 rfl)) (ty := .int) (by decide)
    refine o_dup W127 at_47 rfl (pc' := 48) rfl ?_
    refine o_iloadN W127 at_48 (v := x0) rfl (pc' := 49) rfl ?_
    refine o_aloadN W127 at_49 (v := (.ref a1)) rfl rfl (pc' := 50) rfl ?_
    refine o_iload W127 at_50 (v := (4 : Int32)) rfl (pc' := 52) rfl ?_
    refine o_callC W127 (rm2 l Z a0 hw a126 x0 a1 (4 : Int32) h127 n0 W127.le X_a126 F_tag_a126 F_encoding_a126 F_header_a126 b_a126) rfl (ow hw 9 rfl) (ow hw 10 rfl) (ow hw 8 rfl) (ow hw 11 rfl) (by decide) (argsL := [(.int x0), (.ref a1), (.int (4 : Int32))]) (S := [(.ref a126)]) (lenOf own_pd5 rfl) rfl rfl rfl (wt := 1) rfl (by decide) (by decide) (by decide) (by decide) (kk' := 2) rfl (nn' := 7) rfl at_52 (pc' := 55) rfl ?_
    intro T128 h128 W128 q128 z128
    obtain ⟨X_a126_128, Fe, Fh, KC⟩ := q128
    have A5 := A_a1_127.keep1 KC ne_a1_a126
    have X5 := Exa.keep X_a1_127 KC
    refine o_astore W128 (L' := #[.val (.int x0), .val (.int x1), .val (.int x2), .val (.ref a1), .val (.int (4 : Int32)), .val (.ref a126), .unset]) at_55 rfl rfl (pc' := 57) rfl ?_
    refine o_aload W128 at_57 (v := (.ref a126)) rfl rfl (pc' := 59) rfl ?_
    refine o_callV W128 X_a126_128 (rm5_4 l Z a0 hw a126 h128 n0 W128.le a1 _ _ _ _ A5 X5 Fe Fh) (ow hw 26 rfl) (ow hw 27 rfl) (notFace_of_selects (args := #[]) (mvT W128.hZ (ow hw 29 rfl))) (ow hw 29 rfl) (ow hw 28 rfl) (ow hw 8 rfl) (ow hw 30 rfl) (by decide) (argsL := []) (S := []) (lenOf own_pd6 rfl) rfl rfl rfl (wt := 0) rfl (by decide) (by decide) (by decide) (by decide) (kk' := 3) rfl (nn' := 7) rfl at_59 (pc' := 62) rfl ?_
    intro vv T129 h129 W129 q129 z129
    obtain ⟨r129, rfl, q129⟩ := q129
    show OF _ _ _ _ _ _ _ T129 (mkF m 62 #[.val (.int x0), .val (.int x1), .val (.int x2), .val (.ref a1), .val (.int (4 : Int32)), .val (.ref a126), .unset] [(.ref r129)])
    obtain ⟨gr, KR, AR⟩ := q129
    have A6 := A5.keep KR nin0
    have ner : r129 ≠ a1 := (Nat.ne_of_lt (Nat.lt_of_lt_of_le A5.lt (Nat.le_of_eq gr.symm))).symm
    refine o_astore W129 (L' := #[.val (.int x0), .val (.int x1), .val (.int x2), .val (.ref a1), .val (.int (4 : Int32)), .val (.ref a126), .val (.ref r129)]) at_62 rfl rfl (pc' := 64) rfl ?_
    refine o_aload W129 at_64 (v := (.ref r129)) rfl rfl (pc' := 66) rfl ?_
    refine o_ifnullNo W129 at_66 (pc' := 69) rfl ?_
    refine o_aload W129 at_69 (v := (.ref r129)) rfl rfl (pc' := 71) rfl ?_
    refine o_aloadN W129 at_71 (v := (.ref a1)) rfl rfl (pc' := 72) rfl ?_
    refine o_acmpne W129 ner at_72 (by decide) (pq := 77) (by decide) ?_
    refine o_aload W129 at_77 (v := (.ref r129)) rfl rfl (pc' := 79) rfl ?_
    refine o_arraylength W129 AR at_79 (pc' := 80) rfl ?_
    intro v130 hv130
    obtain rfl : v130 = (0 : Int32) := o_eq (y := (0 : Int32)) hv130
    refine o_iconst W129 (v := (4 : Int32)) at_80 rfl (pc' := 81) rfl ?_
    refine o_iload W129 at_81 (v := (4 : Int32)) rfl (pc' := 83) rfl ?_
    refine o_isub W129 at_83 (pc' := 84) rfl ?_
    show OF _ _ _ _ _ _ _ T129 (mkF m 84 #[.val (.int x0), .val (.int x1), .val (.int x2), .val (.ref a1), .val (.int (4 : Int32)), .val (.ref a126), .val (.ref r129)] [(.int (0 : Int32)), (.int (0 : Int32))])
    refine o_icmp_eq W129 at_84 (by decide) (pq := 89) (by decide) (pc' := 87) rfl (fun hc84 => ?_) (fun hc84 => ?_)
    · refine o_aload W129 at_89 (v := (.ref r129)) rfl rfl (pc' := 91) rfl ?_
      refine o_iconst W129 (v := (0 : Int32)) at_91 rfl (pc' := 92) rfl ?_
      refine o_iloadN W129 at_92 (v := x1) rfl (pc' := 93) rfl ?_
      refine o_iload W129 at_93 (v := (4 : Int32)) rfl (pc' := 95) rfl ?_
      refine o_callSI W129 (rm10 l Z a0 hw r129 (0 : Int32) x1 (4 : Int32) h129 n0 W129.le _ 0 AR rfl (fun q => absurd q (Nat.not_lt.mpr (Nat.le_of_ble_eq_true rfl)))) (ow hw 49 rfl) (ow hw 50 rfl) (ow hw 3 rfl) (ow hw 51 rfl) (by decide) (argsL := [(.ref r129), (.int (0 : Int32)), (.int x1), (.int (4 : Int32))]) (S := []) (lenOf own_pd7 rfl) rfl rfl rfl (wt := 0) rfl (by decide) (by decide) (by decide) (by decide) (kk' := 3) rfl (nn' := 7) rfl at_95 (pc' := 98) rfl ?_
      intro r131 T131 h131 W131 q131 z131
      obtain ⟨q131, rfl⟩ := q131
      have hr131 : r131.toInt = 1 := by rw [q131]; rfl
      refine o_if_eq W131 at_98 (by decide) (pq := 137) (by decide) (pc' := 101) rfl (fun hc98 => ?_) (fun hc98 => ?_)
      · exfalso; omega
      · refine o_aload W131 at_101 (v := (.ref r129)) rfl rfl (pc' := 103) rfl ?_
        refine o_iconst W131 (v := (1 : Int32)) at_103 rfl (pc' := 104) rfl ?_
        refine o_iloadN W131 at_104 (v := x1) rfl (pc' := 105) rfl ?_
        refine o_iload W131 at_105 (v := (4 : Int32)) rfl (pc' := 107) rfl ?_
        refine o_callSI W131 (rm10 l Z a0 hw r129 (1 : Int32) x1 (4 : Int32) h129 n0 W131.le _ 1 AR rfl (fun q => absurd q (Nat.not_lt.mpr (Nat.le_of_ble_eq_true rfl)))) (ow hw 49 rfl) (ow hw 50 rfl) (ow hw 3 rfl) (ow hw 51 rfl) (by decide) (argsL := [(.ref r129), (.int (1 : Int32)), (.int x1), (.int (4 : Int32))]) (S := []) (lenOf own_pd7 rfl) rfl rfl rfl (wt := 0) rfl (by decide) (by decide) (by decide) (by decide) (kk' := 3) rfl (nn' := 7) rfl at_107 (pc' := 110) rfl ?_
        intro r132 T132 h132 W132 q132 z132
        obtain ⟨q132, rfl⟩ := q132
        have hr132 : r132.toInt = 1 := by rw [q132]; rfl
        refine o_if_eq W132 at_110 (by decide) (pq := 137) (by decide) (pc' := 113) rfl (fun hc110 => ?_) (fun hc110 => ?_)
        · exfalso; omega
        · refine o_aload W132 at_113 (v := (.ref r129)) rfl rfl (pc' := 115) rfl ?_
          refine o_iconst W132 (v := (2 : Int32)) at_115 rfl (pc' := 116) rfl ?_
          refine o_iloadN W132 at_116 (v := x1) rfl (pc' := 117) rfl ?_
          refine o_iload W132 at_117 (v := (4 : Int32)) rfl (pc' := 119) rfl ?_
          refine o_callSI W132 (rm10 l Z a0 hw r129 (2 : Int32) x1 (4 : Int32) h129 n0 W132.le _ 2 AR rfl (fun q => absurd q (Nat.not_lt.mpr (Nat.le_of_ble_eq_true rfl)))) (ow hw 49 rfl) (ow hw 50 rfl) (ow hw 3 rfl) (ow hw 51 rfl) (by decide) (argsL := [(.ref r129), (.int (2 : Int32)), (.int x1), (.int (4 : Int32))]) (S := []) (lenOf own_pd7 rfl) rfl rfl rfl (wt := 0) rfl (by decide) (by decide) (by decide) (by decide) (kk' := 3) rfl (nn' := 7) rfl at_119 (pc' := 122) rfl ?_
          intro r133 T133 h133 W133 q133 z133
          obtain ⟨q133, rfl⟩ := q133
          have hr133 : r133.toInt = 1 := by rw [q133]; rfl
          refine o_if_eq W133 at_122 (by decide) (pq := 137) (by decide) (pc' := 125) rfl (fun hc122 => ?_) (fun hc122 => ?_)
          · exfalso; omega
          · refine o_aload W133 at_125 (v := (.ref r129)) rfl rfl (pc' := 127) rfl ?_
            refine o_iconst W133 (v := (3 : Int32)) at_127 rfl (pc' := 128) rfl ?_
            refine o_iloadN W133 at_128 (v := x1) rfl (pc' := 129) rfl ?_
            refine o_iload W133 at_129 (v := (4 : Int32)) rfl (pc' := 131) rfl ?_
            refine o_callSI W133 (rm10 l Z a0 hw r129 (3 : Int32) x1 (4 : Int32) h129 n0 W133.le _ 3 AR rfl (fun q => absurd q (Nat.not_lt.mpr (Nat.le_of_ble_eq_true rfl)))) (ow hw 49 rfl) (ow hw 50 rfl) (ow hw 3 rfl) (ow hw 51 rfl) (by decide) (argsL := [(.ref r129), (.int (3 : Int32)), (.int x1), (.int (4 : Int32))]) (S := []) (lenOf own_pd7 rfl) rfl rfl rfl (wt := 0) rfl (by decide) (by decide) (by decide) (by decide) (kk' := 3) rfl (nn' := 7) rfl at_131 (pc' := 134) rfl ?_
            intro r134 T134 h134 W134 q134 z134
            obtain ⟨q134, rfl⟩ := q134
            have hr134 : r134.toInt = 1 := by rw [q134]; rfl
            refine o_if_ne W134 at_134 (by decide) (pq := 139) (by decide) (pc' := 137) rfl (fun hc134 => ?_) (fun hc134 => ?_)
            · refine o_aloadN W134 at_139 (v := (.ref a1)) rfl rfl (pc' := 140) rfl ?_
              refine o_iconst W134 (v := (0 : Int32)) at_140 rfl (pc' := 141) rfl ?_
              refine o_baload W134 A6 at_141 (pc' := 142) rfl (i := 0) (v := (own_ba x1 (0 : Int32))) rfl rfl ?_
              refine o_iloadN W134 at_142 (v := x1) rfl (pc' := 143) rfl ?_
              refine o_iconst W134 (v := (0 : Int32)) at_143 rfl (pc' := 144) rfl ?_
              refine o_callSI W134 (rm1 l Z a0 hw x1 (0 : Int32) h129 n0 W134.le) (ow hw 1 rfl) (ow hw 2 rfl) (ow hw 3 rfl) (ow hw 4 rfl) (by decide) (argsL := [(.int x1), (.int (0 : Int32))]) (S := [(.int (own_ba x1 (0 : Int32)))]) (lenOf own_pd4 rfl) rfl rfl rfl (wt := 1) rfl (by decide) (by decide) (by decide) (by decide) (kk' := 3) rfl (nn' := 7) rfl at_144 (pc' := 147) rfl ?_
              intro r135 T135 h135 W135 q135 z135
              obtain ⟨q135, rfl⟩ := q135
              subst q135
              refine o_icmp_ne W135 at_147 (by decide) (pq := 187) (by decide) (pc' := 150) rfl (fun hc147 => ?_) (fun hc147 => ?_)
              · exact absurd rfl hc147
              · refine o_aloadN W135 at_150 (v := (.ref a1)) rfl rfl (pc' := 151) rfl ?_
                refine o_iconst W135 (v := (1 : Int32)) at_151 rfl (pc' := 152) rfl ?_
                refine o_baload W135 A6 at_152 (pc' := 153) rfl (i := 1) (v := (own_ba x1 (1 : Int32))) rfl rfl ?_
                refine o_iloadN W135 at_153 (v := x1) rfl (pc' := 154) rfl ?_
                refine o_iconst W135 (v := (1 : Int32)) at_154 rfl (pc' := 155) rfl ?_
                refine o_callSI W135 (rm1 l Z a0 hw x1 (1 : Int32) h129 n0 W135.le) (ow hw 1 rfl) (ow hw 2 rfl) (ow hw 3 rfl) (ow hw 4 rfl) (by decide) (argsL := [(.int x1), (.int (1 : Int32))]) (S := [(.int (own_ba x1 (1 : Int32)))]) (lenOf own_pd4 rfl) rfl rfl rfl (wt := 1) rfl (by decide) (by decide) (by decide) (by decide) (kk' := 3) rfl (nn' := 7) rfl at_155 (pc' := 158) rfl ?_
                intro r136 T136 h136 W136 q136 z136
                obtain ⟨q136, rfl⟩ := q136
                subst q136
                refine o_icmp_ne W136 at_158 (by decide) (pq := 187) (by decide) (pc' := 161) rfl (fun hc158 => ?_) (fun hc158 => ?_)
                · exact absurd rfl hc158
                · refine o_aloadN W136 at_161 (v := (.ref a1)) rfl rfl (pc' := 162) rfl ?_
                  refine o_iconst W136 (v := (2 : Int32)) at_162 rfl (pc' := 163) rfl ?_
                  refine o_baload W136 A6 at_163 (pc' := 164) rfl (i := 2) (v := (own_ba x1 (2 : Int32))) rfl rfl ?_
                  refine o_iloadN W136 at_164 (v := x1) rfl (pc' := 165) rfl ?_
                  refine o_iconst W136 (v := (2 : Int32)) at_165 rfl (pc' := 166) rfl ?_
                  refine o_callSI W136 (rm1 l Z a0 hw x1 (2 : Int32) h129 n0 W136.le) (ow hw 1 rfl) (ow hw 2 rfl) (ow hw 3 rfl) (ow hw 4 rfl) (by decide) (argsL := [(.int x1), (.int (2 : Int32))]) (S := [(.int (own_ba x1 (2 : Int32)))]) (lenOf own_pd4 rfl) rfl rfl rfl (wt := 1) rfl (by decide) (by decide) (by decide) (by decide) (kk' := 3) rfl (nn' := 7) rfl at_166 (pc' := 169) rfl ?_
                  intro r137 T137 h137 W137 q137 z137
                  obtain ⟨q137, rfl⟩ := q137
                  subst q137
                  refine o_icmp_ne W137 at_169 (by decide) (pq := 187) (by decide) (pc' := 172) rfl (fun hc169 => ?_) (fun hc169 => ?_)
                  · exact absurd rfl hc169
                  · refine o_aloadN W137 at_172 (v := (.ref a1)) rfl rfl (pc' := 173) rfl ?_
                    refine o_iconst W137 (v := (3 : Int32)) at_173 rfl (pc' := 174) rfl ?_
                    refine o_baload W137 A6 at_174 (pc' := 175) rfl (i := 3) (v := (own_ba x1 (3 : Int32))) rfl rfl ?_
                    refine o_iloadN W137 at_175 (v := x1) rfl (pc' := 176) rfl ?_
                    refine o_iconst W137 (v := (3 : Int32)) at_176 rfl (pc' := 177) rfl ?_
                    refine o_callSI W137 (rm1 l Z a0 hw x1 (3 : Int32) h129 n0 W137.le) (ow hw 1 rfl) (ow hw 2 rfl) (ow hw 3 rfl) (ow hw 4 rfl) (by decide) (argsL := [(.int x1), (.int (3 : Int32))]) (S := [(.int (own_ba x1 (3 : Int32)))]) (lenOf own_pd4 rfl) rfl rfl rfl (wt := 1) rfl (by decide) (by decide) (by decide) (by decide) (kk' := 3) rfl (nn' := 7) rfl at_177 (pc' := 180) rfl ?_
                    intro r138 T138 h138 W138 q138 z138
                    obtain ⟨q138, rfl⟩ := q138
                    subst q138
                    refine o_icmp_ne W138 at_180 (by decide) (pq := 187) (by decide) (pc' := 183) rfl (fun hc180 => ?_) (fun hc180 => ?_)
                    · exact absurd rfl hc180
                    · refine o_iconst W138 (v := (1 : Int32)) at_183 rfl (pc' := 184) rfl ?_
                      refine o_goto W138 at_184 (by decide) (pq := 188) (by decide) ?_
                      refine o_retN W138 (t := .boolean) rfl (by simp) at_188 (by decide) (by decide) ?_
                      exact rfl
            · exfalso; omega
    · exact absurd hc84 (by decide)
set_option maxRecDepth 65536 in
theorem comes_1 {Post : Tables → Env → Array Value → State → Outcome → State → Prop} (hpost : ∀ tb e args s v u, (limb_1_1.after args s (.returned v) u = true ∧ limb_1_2.after args s (.returned v) u = true ∧ True) → FrameEnd s (.returned v) u (Jvm.fieldLocs frame_1_writes args s ++ Jvm.arrayLocs frame_1_arrays args s ++ Jvm.staticLocs frame_1_statics s) 16 128 → Post tb e args s (.returned v) u) :
    ArmFor flags0 classFile x code maxLocals ret World_1 tables_1 room_1 Calls_1 rest_1 Pre_1 Post := by
  intro l hfl _ _ p e ha hc hk s m args below hf hA hF happ hP
  obtain ⟨hcalls, hrest, hpre⟩ := hP
  obtain ⟨-, -, -, hnamed, -, -, -, hat⟩ := (Spec.applies_iff hf).mp happ
  obtain ⟨hg, hn⟩ := and_e (Cond.before_iff.mp (show (Jvm.Cond.and given_1 narrow_1).before args s = true from hpre))
  obtain ⟨g0, hg1⟩ := and_e hg
  obtain ⟨q0, hg2⟩ := and_e hg1
  obtain ⟨q1, hg3⟩ := and_e hg2
  have q2 := hg3
  obtain ⟨w0, w1, w2, rfl⟩ : ∃ w0 w1 w2 : Value, args = #[w0, w1, w2] := by
    have hs : args.size = 3 := by simpa [Cond.value, given_1] using g0
    obtain ⟨L⟩ := args
    match L, hs with
    | [w0, w1, w2], _ => exact ⟨w0, w1, w2, rfl⟩
  have hw := fun d (hd : d ∈ tables_1) => atoms_spec (ws := Jvm.Cond.code x code maxLocals ret :: tables_1) hat d (List.mem_cons_of_mem _ hd)
  obtain ⟨i0, ei0⟩ := is_v q0
  obtain rfl : w0 = (.int i0) := Option.some.inj ei0
  obtain ⟨i1, ei1⟩ := is_v q1
  obtain rfl : w1 = (.int i1) := Option.some.inj ei1
  obtain ⟨i2, ei2⟩ := is_v q2
  obtain rfl : w2 = (.int i2) := Option.some.inj ei2
  obtain ⟨n, o, h1, h2, h3, _, L, rfl, ⟨rfl, -, N⟩, hq⟩ := own_law l s _ hw i0 i1 i2 s.heap s.heap.size (Nat.le_refl _) p e ha hc hk s m _ below hf ((Spec.applies_iff_loose hf).mp happ).1 ⟨rfl, State.Warmed39.refl s, rfl⟩ trivial
  refine ⟨n, _, h1, h2, h3, hpost _ _ _ _ _ _ ⟨Cond.after_iff.mpr rfl, Cond.after_iff.mpr (eq_i res_at (Term.int_eval (1)) rfl), trivial⟩ ⟨hq.1, hq.2.1, (hq.2.2.sift fun y hy => Or.inr (N y hy)).mono (by decide) (by decide)⟩⟩
theorem main_1_1 : Claimed_1_1 := comes_1 fun _ _ _ _ _ _ h hF => ⟨h.1, hF⟩
theorem main_1_2 : Claimed_1_2 := comes_1 fun _ _ _ _ _ _ h hF => ⟨h.2.1, hF⟩
end Jvm.Pilot.@@N@@
namespace Jvm.Pilot.@@N@@
open Jvm Jvm.ClassFile Sem Op Lib Jvm.Free Jvm.Stand Jvm.Pilot.@@N@@.Jvm.D
/-! MADE BY PROGRAM (witnessworld.py) out of the Statement's table words and the real class files: 13 classes; the members and pool entries that the words name. The judged class is class 1, her method 3. -/
namespace start1
open Jvm.ClassFile
def u (s : String) : CpInfo := .utf8 (stringToUtf16 s)
/-- a pool by its gaps: so many unusable entries, then the entry; so many at the end -/
def gap : Nat → List CpInfo → List CpInfo
  | 0, r => r
  | n + 1, r => .unusable :: gap n r
def poolList (es : List (Nat × CpInfo)) (last : Nat) : List CpInfo := es.foldr (fun e r => gap e.1 (e.2 :: r)) (gap last [])
def pool (es : List (Nat × CpInfo)) (last : Nat) : Array CpInfo := ⟨poolList es last⟩
def fileOf (pool : Array CpInfo) (this : Nat) (attrs : Array Attribute := #[]) (ms : Array MethodInfo := #[]) (fl : Nat := 33) (sup : Nat := 0) (ifs : Array Nat := #[]) (fds : Array FieldInfo := #[]) : ClassFile where
  minorVersion := 0
  majorVersion := 65
  constantPool := pool
  accessFlags := fl
  thisClass := this
  superClass := sup
  interfaces := ifs
  fields := fds
  methods := ms
  attributes := attrs
def plain (name : String) (sup : Option ClassId) : Class where
  name := name
  kind := .ordinary
  loader := none
  accessFlags := 33
  super := sup
  interfaces := #[]
  cf := none
  fields := #[]
  methods := #[]
  instanceTypes := #[]
  staticTypes := #[]
  resolved := #[]
  callSites := []
  init := .initialized
  statics := none
  mirror := none

def pool0 : Array CpInfo := pool [(5, u "<init>"), (0, u "()V"), (1, .class_ 10), (1, u "java/lang/Object"), (85, u "clone"), (0, u "()Ljava/lang/Object;")] 26

def k0c0 : Code := { maxStack := 0, maxLocals := 1, code := object_method_1_code, exceptionTable := #[], attributes := #[] }
def k0m0 : Method := { name := "<init>", desc := "()V", sig := { parameters := [], returnType := none }, accessFlags := 1, code := some k0c0 }
def k0m1 : Method := { name := "clone", desc := "()Ljava/lang/Object;", sig := { parameters := [], returnType := some (.object "java/lang/Object") }, accessFlags := 260, code := none }
/-- java/lang/Object -/
def k0 : Class := { plain "java/lang/Object" none with
  accessFlags := 33
  interfaces := #[]
  cf := some (fileOf pool0 8 #[] #[{ accessFlags := 1, nameIndex := 5, descriptorIndex := 6, attributes := #[] }, { accessFlags := 260, nameIndex := 96, descriptorIndex := 97, attributes := #[] }] 33 0 #[] #[])
  fields := #[]
  methods := #[k0m0, k0m1]
  instanceTypes := #[]
  staticTypes := #[]
  resolved := Array.replicate 124 none
  statics := none }

def pool1 : Array CpInfo := pool [(2, .class_ 4), (1, u "java/lang/Object"), (0, u "<init>"), (0, u "()V"), (0, .methodref 8 9), (0, .class_ 10), (0, .nameAndType 11 12), (0, u "com/example/austere_access/austereaccess/crypto/ValueContentsPinLaw"), (0, u "byteAt"), (0, u "(II)B"), (0, .integer 2147483647), (0, .class_ 15), (0, u "com/example/austere_access/austereaccess/crypto/Der$Value"), (0, .methodref 14 17), (0, .nameAndType 5 18), (0, u "(I[BI)V"), (0, .methodref 14 20), (0, .nameAndType 21 22), (0, u "contents"), (0, u "()[B"), (0, .methodref 8 24), (0, .nameAndType 25 26), (0, u "slot"), (0, u "([BIII)Z"), (3, u "law"), (0, u "(III)Z")] 8

def k1m0 : Method := { name := "<init>", desc := "()V", sig := { parameters := [], returnType := none }, accessFlags := 1, code := none }
def k1c1 : Code := { maxStack := 3, maxLocals := 2, code := method_2_code, exceptionTable := #[], attributes := #[] }
def k1m1 : Method := { name := "byteAt", desc := "(II)B", sig := { parameters := [.int, .int], returnType := some .byte }, accessFlags := 10, code := some k1c1 }
def k1c2 : Code := { maxStack := 4, maxLocals := 4, code := method_3_code, exceptionTable := #[], attributes := #[] }
def k1m2 : Method := { name := "slot", desc := "([BIII)Z", sig := { parameters := [(.array .byte), .int, .int, .int], returnType := some .boolean }, accessFlags := 10, code := some k1c2 }
def k1c3 : Code := { maxStack := 5, maxLocals := 7, code := code, exceptionTable := #[], attributes := #[] }
def k1m3 : Method := { name := "law", desc := "(III)Z", sig := { parameters := [.int, .int, .int], returnType := some .boolean }, accessFlags := 9, code := some k1c3 }
/-- com/example/austere_access/austereaccess/crypto/ValueContentsPinLaw -/
def k1 : Class := { plain "com/example/austere_access/austereaccess/crypto/ValueContentsPinLaw" (some 0) with
  accessFlags := 49
  interfaces := #[]
  cf := some (fileOf pool1 8 #[] #[{ accessFlags := 1, nameIndex := 5, descriptorIndex := 6, attributes := #[] }, { accessFlags := 10, nameIndex := 11, descriptorIndex := 12, attributes := #[] }, { accessFlags := 10, nameIndex := 25, descriptorIndex := 26, attributes := #[] }, { accessFlags := 9, nameIndex := 30, descriptorIndex := 31, attributes := #[] }] 49 2 #[] #[])
  fields := #[]
  methods := #[k1m0, k1m1, k1m2, k1m3]
  instanceTypes := #[]
  staticTypes := #[]
  resolved := Array.replicate 40 none
  statics := none }

def pool2 : Array CpInfo := pool [(1, .methodref 2 3), (0, .class_ 4), (0, .nameAndType 5 6), (0, u "java/lang/Object"), (0, u "<init>"), (0, u "()V"), (0, .class_ 8), (0, u "java/lang/Record")] 13

def k2c0 : Code := { maxStack := 1, maxLocals := 1, code := jdk_30_method_1_code, exceptionTable := #[], attributes := #[] }
def k2m0 : Method := { name := "<init>", desc := "()V", sig := { parameters := [], returnType := none }, accessFlags := 4, code := some k2c0 }
/-- java/lang/Record -/
def k2 : Class := { plain "java/lang/Record" (some 0) with
  accessFlags := 1057
  interfaces := #[]
  cf := some (fileOf pool2 7 #[] #[{ accessFlags := 4, nameIndex := 5, descriptorIndex := 6, attributes := #[] }] 1057 2 #[] #[])
  fields := #[]
  methods := #[k2m0]
  instanceTypes := #[]
  staticTypes := #[]
  resolved := Array.replicate 22 none
  statics := none }

def pool3 : Array CpInfo := pool [(1, .class_ 2), (0, u "com/example/austere_access/austereaccess/crypto/Der"), (0, .methodref 4 5), (0, .class_ 6), (0, .nameAndType 7 8), (0, u "java/lang/Record"), (0, u "<init>"), (0, u "()V"), (0, .fieldref 10 11), (0, .class_ 12), (0, .nameAndType 13 14), (0, u "com/example/austere_access/austereaccess/crypto/Der$Value"), (0, u "tag"), (0, u "I"), (0, .fieldref 10 16), (0, .nameAndType 17 18), (0, u "encoding"), (0, u "[B"), (0, .fieldref 10 20), (0, .nameAndType 21 14), (0, u "header"), (0, .methodref 23 24), (0, .class_ 25), (0, .nameAndType 26 27), (0, u "java/util/Arrays"), (0, u "copyOfRange"), (0, u "([BII)[B"), (43, u "(I[BI)V"), (3, u "contents"), (0, u "()[B")] 39

def k3c0 : Code := { maxStack := 2, maxLocals := 4, code := prog_19_method_1_code, exceptionTable := #[], attributes := #[] }
def k3m0 : Method := { name := "<init>", desc := "(I[BI)V", sig := { parameters := [.int, (.array .byte), .int], returnType := none }, accessFlags := 0, code := some k3c0 }
def k3c1 : Code := { maxStack := 3, maxLocals := 1, code := prog_19_method_2_code, exceptionTable := #[], attributes := #[] }
def k3m1 : Method := { name := "contents", desc := "()[B", sig := { parameters := [], returnType := some (.array .byte) }, accessFlags := 0, code := some k3c1 }
/-- com/example/austere_access/austereaccess/crypto/Der$Value -/
def k3 : Class := { plain "com/example/austere_access/austereaccess/crypto/Der$Value" (some 2) with
  accessFlags := 48
  interfaces := #[]
  cf := some (fileOf pool3 10 #[.nestHost 1] #[{ accessFlags := 0, nameIndex := 7, descriptorIndex := 71, attributes := #[] }, { accessFlags := 0, nameIndex := 75, descriptorIndex := 76, attributes := #[] }] 48 4 #[] #[{ accessFlags := 18, nameIndex := 13, descriptorIndex := 14, attributes := #[] }, { accessFlags := 18, nameIndex := 17, descriptorIndex := 18, attributes := #[] }, { accessFlags := 18, nameIndex := 21, descriptorIndex := 14, attributes := #[] }])
  fields := #[{ name := "tag", type := .int, accessFlags := 18, slot := 0, constantValue := 0 }, { name := "encoding", type := (.array .byte), accessFlags := 18, slot := 1, constantValue := 0 }, { name := "header", type := .int, accessFlags := 18, slot := 2, constantValue := 0 }]
  methods := #[k3m0, k3m1]
  instanceTypes := #[.int, (.array .byte), .int]
  staticTypes := #[]
  resolved := Array.replicate 116 none
  statics := none }

def pool4 : Array CpInfo := pool [(2, .class_ 4), (1, u "java/lang/Object"), (0, u "<init>"), (0, u "()V"), (7, .class_ 16), (1, u "java/util/Arrays"), (57, .class_ 76), (1, u "java/util/Arrays$NaturalOrder"), (32, u "()Ljava/lang/Object;"), (3, .class_ 115), (1, u "java/util/Arrays$LegacyMergeSort"), (1, u "Z"), (10, .nameAndType 129 109), (0, u "clone"), (9, u "copyOfRange"), (10, .methodref 151 152), (0, .class_ 153), (0, .nameAndType 154 155), (0, u "java/lang/System"), (0, u "arraycopy"), (0, u "(Ljava/lang/Object;ILjava/lang/Object;II)V"), (148, .methodref 305 306), (0, .class_ 307), (0, .nameAndType 308 309), (0, u "java/lang/Math"), (0, u "min"), (0, u "(II)I"), (0, .methodref 311 128), (0, .class_ 312), (0, u "[B"), (26, .methodref 14 340), (0, .nameAndType 341 342), (0, u "copyOfRangeByte"), (0, u "([BII)[B"), (0, .methodref 14 344), (0, .nameAndType 345 346), (0, u "checkLength"), (0, u "(II)V"), (28, .class_ 376), (0, u "java/util/Arrays$ArrayList"), (68, u "$assertionsDisabled"), (269, u "MIN_ARRAY_SORT_GRAN"), (0, u "I"), (2, u "INSERTIONSORT_THRESHOLD"), (255, .class_ 976), (0, u "java/util/Arrays$ArrayItr")] 52

def k4m0 : Method := { name := "<init>", desc := "()V", sig := { parameters := [], returnType := none }, accessFlags := 2, code := none }
def k4c1 : Code := { maxStack := 4, maxLocals := 2, code := jdk_65_method_131_code, exceptionTable := #[], attributes := #[] }
def k4m1 : Method := { name := "checkLength", desc := "(II)V", sig := { parameters := [.int, .int], returnType := none }, accessFlags := 10, code := some k4c1 }
def k4c2 : Code := { maxStack := 3, maxLocals := 3, code := jdk_65_method_132_code, exceptionTable := #[], attributes := #[] }
def k4m2 : Method := { name := "copyOfRange", desc := "([BII)[B", sig := { parameters := [(.array .byte), .int, .int], returnType := some (.array .byte) }, accessFlags := 9, code := some k4c2 }
def k4c3 : Code := { maxStack := 6, maxLocals := 5, code := jdk_65_method_133_code, exceptionTable := #[], attributes := #[] }
def k4m3 : Method := { name := "copyOfRangeByte", desc := "([BII)[B", sig := { parameters := [(.array .byte), .int, .int], returnType := some (.array .byte) }, accessFlags := 10, code := some k4c3 }
/-- java/util/Arrays -/
def k4 : Class := { plain "java/util/Arrays" (some 0) with
  accessFlags := 49
  interfaces := #[]
  cf := some (fileOf pool4 14 #[.nestMembers #[975, 375, 113, 74]] #[{ accessFlags := 2, nameIndex := 5, descriptorIndex := 6, attributes := #[] }, { accessFlags := 10, nameIndex := 345, descriptorIndex := 346, attributes := #[] }, { accessFlags := 9, nameIndex := 139, descriptorIndex := 342, attributes := #[] }, { accessFlags := 10, nameIndex := 341, descriptorIndex := 342, attributes := #[] }] 49 2 #[] #[{ accessFlags := 26, nameIndex := 715, descriptorIndex := 716, attributes := #[] }, { accessFlags := 26, nameIndex := 719, descriptorIndex := 716, attributes := #[] }, { accessFlags := 4120, nameIndex := 445, descriptorIndex := 117, attributes := #[] }])
  fields := #[{ name := "MIN_ARRAY_SORT_GRAN", type := .int, accessFlags := 26, slot := 0, constantValue := 0 }, { name := "INSERTIONSORT_THRESHOLD", type := .int, accessFlags := 26, slot := 1, constantValue := 0 }, { name := "$assertionsDisabled", type := .boolean, accessFlags := 4120, slot := 2, constantValue := 0 }]
  methods := #[k4m0, k4m1, k4m2, k4m3]
  instanceTypes := #[]
  staticTypes := #[.int, .int, .boolean]
  resolved := Array.replicate 1029 none
  statics := none }

def pool5 : Array CpInfo := pool [(1, .class_ 2), (0, u "java/lang/Math"), (1, .class_ 6), (1, u "java/lang/Object"), (0, u "<init>"), (0, u "()V"), (89, .class_ 100), (1, u "java/lang/Math$RandomNumberGeneratorHolder"), (71, u "negativeZeroFloatBits"), (0, u "J"), (2, u "negativeZeroDoubleBits"), (24, u "min"), (43, u "$assertionsDisabled"), (0, u "Z"), (88, u "(II)I"), (2, u "twoToTheDoubleScaleDown"), (0, u "D"), (4, u "twoToTheDoubleScaleUp"), (9, u "E"), (3, u "PI"), (2, u "TAU"), (2, u "DEGREES_TO_RADIANS"), (0, u "RADIANS_TO_DEGREES")] 94

def k5m0 : Method := { name := "<init>", desc := "()V", sig := { parameters := [], returnType := none }, accessFlags := 2, code := none }
def k5c1 : Code := { maxStack := 2, maxLocals := 2, code := jdk_29_method_69_code, exceptionTable := #[], attributes := #[] }
def k5m1 : Method := { name := "min", desc := "(II)I", sig := { parameters := [.int, .int], returnType := some .int }, accessFlags := 9, code := some k5c1 }
/-- java/lang/Math -/
def k5 : Class := { plain "java/lang/Math" (some 0) with
  accessFlags := 49
  interfaces := #[]
  cf := some (fileOf pool5 1 #[.nestMembers #[98]] #[{ accessFlags := 2, nameIndex := 7, descriptorIndex := 8, attributes := #[] }, { accessFlags := 9, nameIndex := 201, descriptorIndex := 335, attributes := #[] }] 49 4 #[] #[{ accessFlags := 25, nameIndex := 354, descriptorIndex := 339, attributes := #[] }, { accessFlags := 25, nameIndex := 358, descriptorIndex := 339, attributes := #[] }, { accessFlags := 25, nameIndex := 361, descriptorIndex := 339, attributes := #[] }, { accessFlags := 26, nameIndex := 364, descriptorIndex := 339, attributes := #[] }, { accessFlags := 26, nameIndex := 365, descriptorIndex := 339, attributes := #[] }, { accessFlags := 26, nameIndex := 172, descriptorIndex := 173, attributes := #[] }, { accessFlags := 26, nameIndex := 176, descriptorIndex := 173, attributes := #[] }, { accessFlags := 8, nameIndex := 344, descriptorIndex := 339, attributes := #[] }, { accessFlags := 8, nameIndex := 338, descriptorIndex := 339, attributes := #[] }, { accessFlags := 4120, nameIndex := 245, descriptorIndex := 246, attributes := #[] }])
  fields := #[{ name := "E", type := .double, accessFlags := 25, slot := 0, constantValue := 0 }, { name := "PI", type := .double, accessFlags := 25, slot := 1, constantValue := 0 }, { name := "TAU", type := .double, accessFlags := 25, slot := 2, constantValue := 0 }, { name := "DEGREES_TO_RADIANS", type := .double, accessFlags := 26, slot := 3, constantValue := 0 }, { name := "RADIANS_TO_DEGREES", type := .double, accessFlags := 26, slot := 4, constantValue := 0 }, { name := "negativeZeroFloatBits", type := .long, accessFlags := 26, slot := 5, constantValue := 0 }, { name := "negativeZeroDoubleBits", type := .long, accessFlags := 26, slot := 6, constantValue := 0 }, { name := "twoToTheDoubleScaleUp", type := .double, accessFlags := 8, slot := 7, constantValue := 0 }, { name := "twoToTheDoubleScaleDown", type := .double, accessFlags := 8, slot := 8, constantValue := 0 }, { name := "$assertionsDisabled", type := .boolean, accessFlags := 4120, slot := 9, constantValue := 0 }]
  methods := #[k5m0, k5m1]
  instanceTypes := #[]
  staticTypes := #[.double, .double, .double, .double, .double, .long, .long, .double, .double, .boolean]
  resolved := Array.replicate 460 none
  statics := none }

def pool6 : Array CpInfo := pool [(2, .class_ 4), (1, u "java/lang/Object"), (0, u "<init>"), (0, u "()V"), (1, .class_ 10), (1, u "java/lang/System"), (0, u "allowSecurityManager"), (0, u "I"), (16, u "cons"), (0, u "Ljava/io/Console;"), (77, .class_ 110), (1, u "java/lang/System$CallersHolder"), (43, u "initialErrStream"), (0, u "Ljava/io/PrintStream;"), (19, u "security"), (0, u "Ljava/lang/SecurityManager;"), (31, .class_ 209), (0, u "java/lang/System$1"), (7, u "props"), (0, u "Ljava/util/Properties;"), (2, u "lineSeparator"), (0, u "Ljava/lang/String;"), (96, .class_ 321), (1, u "java/lang/System$LoggerFinder"), (5, .class_ 328), (0, u "java/lang/System$Logger"), (67, u "err"), (2, u "out"), (91, u "notSupportedJnuEncoding"), (15, u "in"), (17, u "initialIn"), (0, u "Ljava/io/InputStream;"), (35, u "bootLayer"), (0, u "Ljava/lang/ModuleLayer;"), (99, .class_ 664), (0, u "java/lang/System$2"), (9, u "NEVER"), (2, u "MAYBE"), (49, u "arraycopy"), (0, u "(Ljava/lang/Object;ILjava/lang/Object;II)V"), (72, .class_ 802), (0, u "java/lang/System$Logger$Level")] 31

def k6m0 : Method := { name := "<init>", desc := "()V", sig := { parameters := [], returnType := none }, accessFlags := 2, code := none }
def k6m1 : Method := { name := "arraycopy", desc := "(Ljava/lang/Object;ILjava/lang/Object;II)V", sig := { parameters := [(.object "java/lang/Object"), .int, (.object "java/lang/Object"), .int, .int], returnType := none }, accessFlags := 265, code := none }
/-- java/lang/System -/
def k6 : Class := { plain "java/lang/System" (some 0) with
  accessFlags := 49
  interfaces := #[]
  cf := some (fileOf pool6 8 #[.nestMembers #[319, 327, 801, 108, 663, 208]] #[{ accessFlags := 2, nameIndex := 5, descriptorIndex := 6, attributes := #[] }, { accessFlags := 265, nameIndex := 727, descriptorIndex := 728, attributes := #[] }] 49 2 #[] #[{ accessFlags := 25, nameIndex := 507, descriptorIndex := 526, attributes := #[] }, { accessFlags := 25, nameIndex := 399, descriptorIndex := 155, attributes := #[] }, { accessFlags := 25, nameIndex := 396, descriptorIndex := 155, attributes := #[] }, { accessFlags := 10, nameIndex := 525, descriptorIndex := 526, attributes := #[] }, { accessFlags := 26, nameIndex := 674, descriptorIndex := 12, attributes := #[] }, { accessFlags := 26, nameIndex := 677, descriptorIndex := 12, attributes := #[] }, { accessFlags := 10, nameIndex := 11, descriptorIndex := 12, attributes := #[] }, { accessFlags := 74, nameIndex := 175, descriptorIndex := 176, attributes := #[] }, { accessFlags := 10, nameIndex := 491, descriptorIndex := 222, attributes := #[] }, { accessFlags := 74, nameIndex := 29, descriptorIndex := 30, attributes := #[] }, { accessFlags := 74, nameIndex := 154, descriptorIndex := 155, attributes := #[] }, { accessFlags := 10, nameIndex := 217, descriptorIndex := 218, attributes := #[] }, { accessFlags := 10, nameIndex := 221, descriptorIndex := 222, attributes := #[] }, { accessFlags := 8, nameIndex := 562, descriptorIndex := 563, attributes := #[] }])
  fields := #[{ name := "in", type := (.object "java/io/InputStream"), accessFlags := 25, slot := 0, constantValue := 0 }, { name := "out", type := (.object "java/io/PrintStream"), accessFlags := 25, slot := 1, constantValue := 0 }, { name := "err", type := (.object "java/io/PrintStream"), accessFlags := 25, slot := 2, constantValue := 0 }, { name := "initialIn", type := (.object "java/io/InputStream"), accessFlags := 10, slot := 3, constantValue := 0 }, { name := "NEVER", type := .int, accessFlags := 26, slot := 4, constantValue := 0 }, { name := "MAYBE", type := .int, accessFlags := 26, slot := 5, constantValue := 0 }, { name := "allowSecurityManager", type := .int, accessFlags := 10, slot := 6, constantValue := 0 }, { name := "security", type := (.object "java/lang/SecurityManager"), accessFlags := 74, slot := 7, constantValue := 0 }, { name := "notSupportedJnuEncoding", type := (.object "java/lang/String"), accessFlags := 10, slot := 8, constantValue := 0 }, { name := "cons", type := (.object "java/io/Console"), accessFlags := 74, slot := 9, constantValue := 0 }, { name := "initialErrStream", type := (.object "java/io/PrintStream"), accessFlags := 74, slot := 10, constantValue := 0 }, { name := "props", type := (.object "java/util/Properties"), accessFlags := 10, slot := 11, constantValue := 0 }, { name := "lineSeparator", type := (.object "java/lang/String"), accessFlags := 10, slot := 12, constantValue := 0 }, { name := "bootLayer", type := (.object "java/lang/ModuleLayer"), accessFlags := 8, slot := 13, constantValue := 0 }]
  methods := #[k6m0, k6m1]
  instanceTypes := #[]
  staticTypes := #[(.object "java/io/InputStream"), (.object "java/io/PrintStream"), (.object "java/io/PrintStream"), (.object "java/io/InputStream"), .int, .int, .int, (.object "java/lang/SecurityManager"), (.object "java/lang/String"), (.object "java/io/Console"), (.object "java/io/PrintStream"), (.object "java/util/Properties"), (.object "java/lang/String"), (.object "java/lang/ModuleLayer")]
  resolved := Array.replicate 834 none
  statics := none }

def pool7 : Array CpInfo := pool [(1, .class_ 2), (0, u "java/lang/Cloneable"), (0, .class_ 4), (0, u "java/lang/Object")] 2

/-- java/lang/Cloneable -/
def k7 : Class := { plain "java/lang/Cloneable" (some 0) with
  accessFlags := 1537
  interfaces := #[]
  cf := some (fileOf pool7 1 #[] #[] 1537 3 #[] #[])
  fields := #[]
  methods := #[]
  instanceTypes := #[]
  staticTypes := #[]
  resolved := Array.replicate 7 none
  statics := none }

def pool8 : Array CpInfo := pool [(1, u "java/io/Serializable"), (0, .class_ 1), (0, u "java/lang/Object"), (0, .class_ 3)] 3

/-- java/io/Serializable -/
def k8 : Class := { plain "java/io/Serializable" (some 0) with
  accessFlags := 1537
  interfaces := #[]
  cf := some (fileOf pool8 2 #[] #[] 1537 4 #[] #[])
  fields := #[]
  methods := #[]
  instanceTypes := #[]
  staticTypes := #[]
  resolved := Array.replicate 8 none
  statics := none }

/-- the primitive byte -/
def k9 : Class := { plain "byte" none with kind := .primitive 'B', accessFlags := 0x411 }
/-- [B -/
def k10 : Class := { plain "[B" (some 0) with kind := .array 9 .byte, interfaces := #[7, 8], accessFlags := 1041 }

/-- the primitive int -/
def k11 : Class := { plain "int" none with kind := .primitive 'I', accessFlags := 0x411 }
/-- [I -/
def k12 : Class := { plain "[I" (some 0) with kind := .array 11 .int, interfaces := #[7, 8], accessFlags := 1041 }

def heap : Heap := #[]
def classes : Array Class := #[k0, k1, k2, k3, k4, k5, k6, k7, k8, k9, k10, k11, k12]
def interned : List (Array UInt16 × Addr) := []
def slotsUsed : Nat := 0
def theMethod : MethodId := ⟨1, 3⟩
def args0 : Array Value := #[.int 2, .int 777, .int 2000]
def aboutOver (below : List Frame) : State where
  vm := { classes := classes, interned := interned.toArray }
  heap := heap
  slotsUsed := slotsUsed
  threads := #[{ frames := .invoking theMethod args0 :: below }]
def below0 : List Frame := [.native { method := ⟨0, 0⟩, args := #[] }]
def about1 : State := aboutOver below0
def p0 : Program := .bare "" "" ""
def e0 : Env := launch0.env 0 0 0
theorem w_frames : about1.frames = Frame.invoking theMethod args0 :: below0 := rfl
set_option maxRecDepth 65536 in
theorem w_args : argsFit about1.vm theMethod args0 = true := by decide +kernel
set_option maxRecDepth 65536 in
theorem w_heap : heapFits about1 = true := by decide +kernel
set_option maxRecDepth 65536 in
theorem w_runnable : about1.curStatus? = some .runnable := by decide +kernel
set_option maxRecDepth 65536 in
theorem w_alone : about1.alone = true := by decide +kernel
set_option maxRecDepth 65536 in
theorem w_named : about1.methodNamed? x = some theMethod := by decide +kernel
set_option maxRecDepth 65536 in
theorem w_hears : about1.hears theMethod below0 = true := by decide +kernel
set_option maxRecDepth 65536 in
theorem w_ripe : about1.ripe theMethod args0 below0 = true := by decide +kernel
theorem w_running : about1.status = .running := rfl
set_option maxRecDepth 65536 in
theorem w_room : about1.hasRoom e0.platform room_1 = true :=
  launch0.hasRoom_least _ room_1 (by decide +kernel) (by decide +kernel) (by decide +kernel) (by decide +kernel) (by decide +kernel) (by decide +kernel)
theorem allAtoms_all (ts : List Jvm.Cond) (a : Array Jvm.Value) (st : Jvm.State) : (allAtoms ts).before a st = ts.all (fun c => c.before a st) := by
  induction ts with
  | nil => rfl
  | cons c t ih =>
    show (Jvm.Cond.and c (allAtoms t)).before a st = _
    rw [Jvm.Cond.before_and, ih, List.all_cons]
def words1 : List Jvm.Cond := Jvm.Cond.code x code maxLocals ret :: tables_1
/-- a 'code' word, met by the world's own term for the bytes: nothing is compared byte by byte -/
theorem code_word {y : MethodName} {bytes : ByteArray} {mx : Nat} {rt : Option FieldType} {a : Array Value} {s : State} {m : MethodId} {meth : Method} {c : Code} (h1 : s.methodNamed? y = some m) (h2 : s.vm.method? m = some meth) (h3 : meth.code = some c) (h4 : c.code = bytes)
    (h5 : (c.maxLocals == mx && c.exceptionTable.isEmpty && decide (c.maxStack ≤ mostOperands) && decide (meth.sig.returnType = rt) && !meth.locks && decide (parseMethodDescriptor y.desc = some meth.sig)) = true) : (Jvm.Cond.code y bytes mx rt).before a s = true := by
  simp only [Bool.and_eq_true, beq_iff_eq, Bool.not_eq_true', decide_eq_true_eq] at h5
  obtain ⟨⟨⟨⟨⟨g1, g2⟩, g3⟩, g4⟩, g5⟩, g6⟩ := h5
  simp [Cond.before, Cond.holds, Cond.value, h1, h2, h3, h4, g1, g2, g3, g4, g5, g6]
def isCode : Jvm.Cond → Bool
  | .code _ _ _ _ => true
  | _ => false
theorem all_split {L : List Jvm.Cond} {P : Jvm.Cond → Bool} (h1 : L.all (fun c => isCode c || P c) = true) (h2 : ∀ c ∈ L.filter isCode, P c = true) : L.all P = true := by
  refine List.all_eq_true.mpr fun c hc => ?_
  have h := List.all_eq_true.mp h1 c hc
  rcases Bool.eq_false_or_eq_true (isCode c) with hi | hi
  · exact h2 c (List.mem_filter.mpr ⟨hc, hi⟩)
  · simpa [hi] using h
set_option maxRecDepth 65536 in
theorem w_c0 : (Jvm.Cond.code x code maxLocals ret).before args0 about1 = true := code_word (m := ⟨1, 3⟩) (meth := k1m3) (c := k1c3) (by decide +kernel) rfl rfl rfl (by decide +kernel)
set_option maxRecDepth 65536 in
theorem w_c1 : (Jvm.Cond.code ({ cls := "com/example/austere_access/austereaccess/crypto/ValueContentsPinLaw", name := "byteAt", desc := "(II)B" } : Jvm.MethodName) method_2_code (2 : Nat) (Option.some Jvm.ClassFile.FieldType.byte)).before args0 about1 = true := code_word (m := ⟨1, 1⟩) (meth := k1m1) (c := k1c1) (by decide +kernel) rfl rfl rfl (by decide +kernel)
set_option maxRecDepth 65536 in
theorem w_c2 : (Jvm.Cond.code ({ cls := "com/example/austere_access/austereaccess/crypto/Der$Value", name := "<init>", desc := "(I[BI)V" } : Jvm.MethodName) prog_19_method_1_code (4 : Nat) (Option.none : Option Jvm.ClassFile.FieldType)).before args0 about1 = true := code_word (m := ⟨3, 0⟩) (meth := k3m0) (c := k3c0) (by decide +kernel) rfl rfl rfl (by decide +kernel)
set_option maxRecDepth 65536 in
theorem w_c3 : (Jvm.Cond.code ({ cls := "java/lang/Record", name := "<init>", desc := "()V" } : Jvm.MethodName) jdk_30_method_1_code (1 : Nat) (Option.none : Option Jvm.ClassFile.FieldType)).before args0 about1 = true := code_word (m := ⟨2, 0⟩) (meth := k2m0) (c := k2c0) (by decide +kernel) rfl rfl rfl (by decide +kernel)
set_option maxRecDepth 65536 in
theorem w_c4 : (Jvm.Cond.code ({ cls := "java/lang/Object", name := "<init>", desc := "()V" } : Jvm.MethodName) object_method_1_code (1 : Nat) (Option.none : Option Jvm.ClassFile.FieldType)).before args0 about1 = true := code_word (m := ⟨0, 0⟩) (meth := k0m0) (c := k0c0) (by decide +kernel) rfl rfl rfl (by decide +kernel)
set_option maxRecDepth 65536 in
theorem w_c5 : (Jvm.Cond.code ({ cls := "com/example/austere_access/austereaccess/crypto/Der$Value", name := "contents", desc := "()[B" } : Jvm.MethodName) prog_19_method_2_code (1 : Nat) (Option.some (Jvm.ClassFile.FieldType.array Jvm.ClassFile.FieldType.byte))).before args0 about1 = true := code_word (m := ⟨3, 1⟩) (meth := k3m1) (c := k3c1) (by decide +kernel) rfl rfl rfl (by decide +kernel)
set_option maxRecDepth 65536 in
theorem w_c6 : (Jvm.Cond.code ({ cls := "java/util/Arrays", name := "copyOfRange", desc := "([BII)[B" } : Jvm.MethodName) jdk_65_method_132_code (3 : Nat) (Option.some (Jvm.ClassFile.FieldType.array Jvm.ClassFile.FieldType.byte))).before args0 about1 = true := code_word (m := ⟨4, 2⟩) (meth := k4m2) (c := k4c2) (by decide +kernel) rfl rfl rfl (by decide +kernel)
set_option maxRecDepth 65536 in
theorem w_c7 : (Jvm.Cond.code ({ cls := "java/util/Arrays", name := "copyOfRangeByte", desc := "([BII)[B" } : Jvm.MethodName) jdk_65_method_133_code (5 : Nat) (Option.some (Jvm.ClassFile.FieldType.array Jvm.ClassFile.FieldType.byte))).before args0 about1 = true := code_word (m := ⟨4, 3⟩) (meth := k4m3) (c := k4c3) (by decide +kernel) rfl rfl rfl (by decide +kernel)
set_option maxRecDepth 65536 in
theorem w_c8 : (Jvm.Cond.code ({ cls := "java/util/Arrays", name := "checkLength", desc := "(II)V" } : Jvm.MethodName) jdk_65_method_131_code (2 : Nat) (Option.none : Option Jvm.ClassFile.FieldType)).before args0 about1 = true := code_word (m := ⟨4, 1⟩) (meth := k4m1) (c := k4c1) (by decide +kernel) rfl rfl rfl (by decide +kernel)
set_option maxRecDepth 65536 in
theorem w_c9 : (Jvm.Cond.code ({ cls := "java/lang/Math", name := "min", desc := "(II)I" } : Jvm.MethodName) jdk_29_method_69_code (2 : Nat) (Option.some Jvm.ClassFile.FieldType.int)).before args0 about1 = true := code_word (m := ⟨5, 1⟩) (meth := k5m1) (c := k5c1) (by decide +kernel) rfl rfl rfl (by decide +kernel)
set_option maxRecDepth 65536 in
theorem w_c10 : (Jvm.Cond.code ({ cls := "com/example/austere_access/austereaccess/crypto/ValueContentsPinLaw", name := "slot", desc := "([BIII)Z" } : Jvm.MethodName) method_3_code (4 : Nat) (Option.some Jvm.ClassFile.FieldType.boolean)).before args0 about1 = true := code_word (m := ⟨1, 2⟩) (meth := k1m2) (c := k1c2) (by decide +kernel) rfl rfl rfl (by decide +kernel)
def codes1 : List Jvm.Cond := [Jvm.Cond.code x code maxLocals ret, Jvm.Cond.code ({ cls := "com/example/austere_access/austereaccess/crypto/ValueContentsPinLaw", name := "byteAt", desc := "(II)B" } : Jvm.MethodName) method_2_code (2 : Nat) (Option.some Jvm.ClassFile.FieldType.byte), Jvm.Cond.code ({ cls := "com/example/austere_access/austereaccess/crypto/Der$Value", name := "<init>", desc := "(I[BI)V" } : Jvm.MethodName) prog_19_method_1_code (4 : Nat) (Option.none : Option Jvm.ClassFile.FieldType), Jvm.Cond.code ({ cls := "java/lang/Record", name := "<init>", desc := "()V" } : Jvm.MethodName) jdk_30_method_1_code (1 : Nat) (Option.none : Option Jvm.ClassFile.FieldType), Jvm.Cond.code ({ cls := "java/lang/Object", name := "<init>", desc := "()V" } : Jvm.MethodName) object_method_1_code (1 : Nat) (Option.none : Option Jvm.ClassFile.FieldType), Jvm.Cond.code ({ cls := "com/example/austere_access/austereaccess/crypto/Der$Value", name := "contents", desc := "()[B" } : Jvm.MethodName) prog_19_method_2_code (1 : Nat) (Option.some (Jvm.ClassFile.FieldType.array Jvm.ClassFile.FieldType.byte)), Jvm.Cond.code ({ cls := "java/util/Arrays", name := "copyOfRange", desc := "([BII)[B" } : Jvm.MethodName) jdk_65_method_132_code (3 : Nat) (Option.some (Jvm.ClassFile.FieldType.array Jvm.ClassFile.FieldType.byte)), Jvm.Cond.code ({ cls := "java/util/Arrays", name := "copyOfRangeByte", desc := "([BII)[B" } : Jvm.MethodName) jdk_65_method_133_code (5 : Nat) (Option.some (Jvm.ClassFile.FieldType.array Jvm.ClassFile.FieldType.byte)), Jvm.Cond.code ({ cls := "java/util/Arrays", name := "checkLength", desc := "(II)V" } : Jvm.MethodName) jdk_65_method_131_code (2 : Nat) (Option.none : Option Jvm.ClassFile.FieldType), Jvm.Cond.code ({ cls := "java/lang/Math", name := "min", desc := "(II)I" } : Jvm.MethodName) jdk_29_method_69_code (2 : Nat) (Option.some Jvm.ClassFile.FieldType.int), Jvm.Cond.code ({ cls := "com/example/austere_access/austereaccess/crypto/ValueContentsPinLaw", name := "slot", desc := "([BIII)Z" } : Jvm.MethodName) method_3_code (4 : Nat) (Option.some Jvm.ClassFile.FieldType.boolean)]
set_option maxRecDepth 65536 in
theorem codes_eq : words1.filter isCode = codes1 := rfl
theorem w_codes : ∀ c ∈ words1.filter isCode, c.before args0 about1 = true := by
  rw [codes_eq]
  intro c hc
  simp only [codes1, List.mem_cons, List.not_mem_nil, or_false] at hc
  rcases hc with rfl | rfl | rfl | rfl | rfl | rfl | rfl | rfl | rfl | rfl | rfl
  · exact w_c0
  · exact w_c1
  · exact w_c2
  · exact w_c3
  · exact w_c4
  · exact w_c5
  · exact w_c6
  · exact w_c7
  · exact w_c8
  · exact w_c9
  · exact w_c10
set_option maxRecDepth 65536 in
theorem w_t1 : (words1.take 24).all (fun c => isCode c || c.before args0 about1) = true := by decide +kernel
set_option maxRecDepth 65536 in
theorem w_t2 : ((words1.drop 24).take 24).all (fun c => isCode c || c.before args0 about1) = true := by decide +kernel
set_option maxRecDepth 65536 in
theorem w_t3 : ((words1.drop 24).drop 24).all (fun c => isCode c || c.before args0 about1) = true := by decide +kernel
theorem w_tables : (allAtoms (Jvm.Cond.code x code maxLocals ret :: tables_1)).before args0 about1 = true := by
  rw [allAtoms_all]
  show words1.all (fun c => c.before args0 about1) = true
  refine all_split ?_ w_codes
  rw [← List.take_append_drop 24 words1, List.all_append, w_t1, ← List.take_append_drop 24 (words1.drop 24), List.all_append, w_t2, w_t3]
  rfl
set_option maxRecDepth 65536 in
theorem w_case : (Jvm.Cond.and given_1 narrow_1).before args0 about1 = true := by decide +kernel
theorem w_applies : (headSpec (Jvm.Cond.code x code maxLocals ret :: tables_1) room_1).applies x e0.platform about1 = true :=
  (Spec.applies_iff w_frames).mpr ⟨w_running, w_runnable, w_alone, w_named, w_hears, w_ripe, w_room, w_tables⟩
theorem atStart : AtStart classFile x code maxLocals ret World_1 tables_1 room_1 Calls_1 rest_1 Pre_1 launch0 p0 e0 about1 theMethod args0 below0 :=
  ⟨lists_1, trivial, launch0.admits_env _ _ _, launch0.least_env, fairChoices_fair.cas, fairChoices_fair.clock, w_frames, w_args, w_heap, w_applies, trivial, trivial, w_case⟩
end start1
theorem witness_1 : WitnessClaimed_1 := ⟨start1.p0, start1.e0, start1.about1, start1.theMethod, start1.args0, start1.below0, start1.atStart⟩
end Jvm.Pilot.@@N@@
