import JvmDerived
import JvmDerived.Pilot.@@N@@Statement
import JvmDerived.Pilot.@@N@@Code
set_option linter.unusedVariables false
set_option linter.unusedSimpArgs false
namespace Jvm.RoadKit
open Sem ClassFile Op Lib Jvm.Stand Jvm.Free Jvm.LawKit
section Own
variable {p : Program} {l : Launch} {e : Env} {R : Room} {s : State} {m : MethodId} {args : Array Value} {below : List Frame} {meth : Method} {c : Code} {Z : State} {a0 : Array Value}
/-- what a body's walk stands on -/
def OC (p : Program) (s : State) (m : MethodId) (meth : Method) (c : Code) (Z : State) (own nm : String) (bytes : ByteArray) (ml : Nat) (ret : Option FieldType) : Prop :=
  p.tables.exec = Jvm.exec ∧ c.code = bytes ∧ Z.Warmed39 s.vm ∧ s.vm.findClass own = some m.cls ∧ c.maxLocals = ml ∧ meth.sig.returnType = ret ∧ meth.locks = false ∧ meth.name = nm
/-- where the walk stands: the heap, what has been made, what has been written -/
def OS (p : Program) (l : Launch) (e : Env) (R : Room) (s : State) (m : MethodId) (args : Array Value) (below : List Frame) (meth : Method) (c : Code) (n0 : Nat) (h : Heap) (cl sl : Nat) (T : State) (locs : List Loc) : Prop :=
  Stand p l e R s m args below meth c T locs cl sl ∧ Fr n0 locs ∧ T.heap = h ∧ cl ≤ R.cells ∧ sl ≤ R.slots
/-- a run that leaves the heap as it is: from the frame g to the frame g' -/
def OG (p : Program) (l : Launch) (e : Env) (R : Room) (s : State) (m : MethodId) (args : Array Value) (below : List Frame) (meth : Method) (c : Code) (n0 : Nat) (h : Heap) (g g' : JFrame) : Prop :=
  ∀ T locs cl sl, OS p l e R s m args below meth c n0 h cl sl T locs →
    ∃ T' locs', OS p l e R s m args below meth c n0 h cl sl T' locs' ∧ ∀ target, Steps p.tables e below (T'.setTop g') target → Steps p.tables e below (T.setTop g) target
/-- what is left to run from the frame g: it returns, and Q holds of what it returns and of the heap -/
def OW (p : Program) (l : Launch) (e : Env) (R : Room) (s : State) (m : MethodId) (args : Array Value) (below : List Frame) (meth : Method) (c : Code) (n0 : Nat) (Q : Option Value → Heap → Prop) (K N : Nat) (h : Heap) (cl sl : Nat) (g : JFrame) : Prop :=
  ∀ T locs, OS p l e R s m args below meth c n0 h cl sl T locs →
    ∃ s₂ o, Steps p.tables e below (T.setTop g) s₂ ∧ s₂.status = .running ∧ Ended s₂ below o ∧ ∃ v L, o = .returned v ∧ (Q v s₂.heap ∧ Fr n0 L) ∧ FrameEnd s o s₂ L K N
variable {own nm : String} {bytes : ByteArray} {ml n0 K N : Nat} {ret : Option FieldType} {Q : Option Value → Heap → Prop} {h : Heap} {cl sl : Nat} {g g' g'' : JFrame} {pc pc' : Nat} {ls ls' : Array Slot} {st : List Value}
theorem OG.refl : OG p l e R s m args below meth c n0 h g g := fun T locs _ _ X => ⟨T, locs, X, fun _ k => k⟩
theorem OG.trans (A : OG p l e R s m args below meth c n0 h g g') (B : OG p l e R s m args below meth c n0 h g' g'') : OG p l e R s m args below meth c n0 h g g'' := fun T locs cl sl X => by
  obtain ⟨T1, L1, X1, k1⟩ := A T locs cl sl X
  obtain ⟨T2, L2, X2, k2⟩ := B T1 L1 cl sl X1
  exact ⟨T2, L2, X2, fun t k => k1 t (k2 t k)⟩
theorem OG.ow (A : OG p l e R s m args below meth c n0 h g g') (B : OW p l e R s m args below meth c n0 Q K N h cl sl g') : OW p l e R s m args below meth c n0 Q K N h cl sl g := fun T locs X => by
  obtain ⟨T1, L1, X1, k1⟩ := A T locs cl sl X
  obtain ⟨s₂, o, q, r⟩ := B T1 L1 X1
  exact ⟨s₂, o, k1 _ q, r⟩
theorem OG.cast (A : OG p l e R s m args below meth c n0 h g g') (q : g' = g'') : OG p l e R s m args below meth c n0 h g g'' := q ▸ A
theorem OW.cast (q : g = g') (A : OW p l e R s m args below meth c n0 Q K N h cl sl g') : OW p l e R s m args below meth c n0 Q K N h cl sl g := q ▸ A
theorem OW.more {cl' sl' : Nat} (A : OW p l e R s m args below meth c n0 Q K N h cl' sl' g) (q1 : cl ≤ cl') (q2 : sl ≤ sl') (q3 : cl' ≤ R.cells) (q4 : sl' ≤ R.slots) : OW p l e R s m args below meth c n0 Q K N h cl sl g := fun T locs X => A T locs ⟨X.1.more q1 q2, X.2.1, X.2.2.1, q3, q4⟩
/-- the two arms of a branch meet -/
theorem OG.ite {α : Type} {P : Prop} [Decidable P] {f : α → JFrame} {x y : α} (A : P → OG p l e R s m args below meth c n0 h g (f x)) (B : ¬ P → OG p l e R s m args below meth c n0 h g (f y)) : OG p l e R s m args below meth c n0 h g (f (if P then x else y)) := by
  by_cases q : P
  · rw [if_pos q]; exact A q
  · rw [if_neg q]; exact B q
theorem OG.of (k : ∀ (s' : State) T locs cl sl, Stand p l e R s' m args below meth c T locs cl sl → ∀ target, Steps p.tables e below (T.setTop g') target → Steps p.tables e below (T.setTop g) target) : OG p l e R s m args below meth c n0 h g g' :=
  fun T locs _ _ X => ⟨T, locs, X, k _ T locs _ _ X.1⟩
theorem OC.d (C : OC p s m meth c Z own nm bytes ml ret) {r : Except DecodeError (Instr × Nat)} (q : decode bytes pc = r) : decode c.code pc = r := by rw [C.2.1]; exact q
theorem OG.ite0 {P : Prop} [Decidable P] (A : P → OG p l e R s m args below meth c n0 h g g') (B : ¬ P → OG p l e R s m args below meth c n0 h g g') : OG p l e R s m args below meth c n0 h g g' := by
  by_cases q : P
  · exact A q
  · exact B q
theorem OG.ite2 {α β : Type} {P : Prop} [Decidable P] {f : α → β → JFrame} {x y : α} {x' y' : β} (A : P → OG p l e R s m args below meth c n0 h g (f x x')) (B : ¬ P → OG p l e R s m args below meth c n0 h g (f y y')) : OG p l e R s m args below meth c n0 h g (f (if P then x else y) (if P then x' else y')) := by
  by_cases q : P
  · rw [if_pos q, if_pos q]; exact A q
  · rw [if_neg q, if_neg q]; exact B q
theorem OG.iloadN (C : OC p s m meth c Z own nm bytes ml ret) {k : Fin 4} {v : Int32} (hd : decode bytes pc = .ok (.iload_n k, 1)) (hl : ls[k.val]? = some (.val (.int v))) (hp : pc + 1 = pc') : OG p l e R s m args below meth c n0 h (mkF m pc ls st) (mkF m pc' ls (.int v :: st)) := by
  subst hp
  exact OG.of fun s' T locs cl sl X target k => XS.iloadN X.here C.1 rfl (C.d hd) hl k
theorem OG.iload (C : OC p s m meth c Z own nm bytes ml ret) {k : Nat} {v : Int32} (hd : decode bytes pc = .ok (.iload k, 2)) (hl : ls[k]? = some (.val (.int v))) (hp : pc + 2 = pc') : OG p l e R s m args below meth c n0 h (mkF m pc ls st) (mkF m pc' ls (.int v :: st)) := by
  subst hp
  exact OG.of fun s' T locs cl sl X target k => XS.iload X.here C.1 rfl (C.d hd) hl k
theorem OG.lloadN (C : OC p s m meth c Z own nm bytes ml ret) {k : Fin 4} {v : Int64} (hd : decode bytes pc = .ok (.lload_n k, 1)) (hl : ls[k.val]? = some (.val (.long v))) (hp : pc + 1 = pc') : OG p l e R s m args below meth c n0 h (mkF m pc ls st) (mkF m pc' ls (.long v :: st)) := by
  subst hp
  exact OG.of fun s' T locs cl sl X target k => XS.lloadN X.here C.1 rfl (C.d hd) hl k
theorem OG.lload (C : OC p s m meth c Z own nm bytes ml ret) {k : Nat} {v : Int64} (hd : decode bytes pc = .ok (.lload k, 2)) (hl : ls[k]? = some (.val (.long v))) (hp : pc + 2 = pc') : OG p l e R s m args below meth c n0 h (mkF m pc ls st) (mkF m pc' ls (.long v :: st)) := by
  subst hp
  exact OG.of fun s' T locs cl sl X target k => XS.lload X.here C.1 rfl (C.d hd) hl k
theorem OG.aloadN (C : OC p s m meth c Z own nm bytes ml ret) {k : Fin 4} {v : Value} (hd : decode bytes pc = .ok (.aload_n k, 1)) (hl : ls[k.val]? = some (.val v)) (hv : v.isRef = true) (hp : pc + 1 = pc') : OG p l e R s m args below meth c n0 h (mkF m pc ls st) (mkF m pc' ls (v :: st)) := by
  subst hp
  exact OG.of fun s' T locs cl sl X target k => XS.aloadN X.here C.1 rfl (C.d hd) hl hv k
theorem OG.aload (C : OC p s m meth c Z own nm bytes ml ret) {k : Nat} {v : Value} (hd : decode bytes pc = .ok (.aload k, 2)) (hl : ls[k]? = some (.val v)) (hv : v.isRef = true) (hp : pc + 2 = pc') : OG p l e R s m args below meth c n0 h (mkF m pc ls st) (mkF m pc' ls (v :: st)) := by
  subst hp
  exact OG.of fun s' T locs cl sl X target k => XS.aload X.here C.1 rfl (C.d hd) hl hv k
theorem OG.istoreN (C : OC p s m meth c Z own nm bytes ml ret) {k : Fin 4} {v : Int32} (hd : decode bytes pc = .ok (.istore_n k, 1)) (hl : storeLocals ls k.val (.int v) = some ls') (hp : pc + 1 = pc') : OG p l e R s m args below meth c n0 h (mkF m pc ls (.int v :: st)) (mkF m pc' ls' st) := by
  subst hp
  exact OG.of fun s' T locs cl sl X target k => XS.istoreN X.here C.1 rfl (C.d hd) rfl hl k
theorem OG.istore (C : OC p s m meth c Z own nm bytes ml ret) {k : Nat} {v : Int32} (hd : decode bytes pc = .ok (.istore k, 2)) (hl : storeLocals ls k (.int v) = some ls') (hp : pc + 2 = pc') : OG p l e R s m args below meth c n0 h (mkF m pc ls (.int v :: st)) (mkF m pc' ls' st) := by
  subst hp
  exact OG.of fun s' T locs cl sl X target k => XS.istore X.here C.1 rfl (C.d hd) rfl hl k
theorem OG.lstoreN (C : OC p s m meth c Z own nm bytes ml ret) {k : Fin 4} {v : Int64} (hd : decode bytes pc = .ok (.lstore_n k, 1)) (hl : storeLocals ls k.val (.long v) = some ls') (hp : pc + 1 = pc') : OG p l e R s m args below meth c n0 h (mkF m pc ls (.long v :: st)) (mkF m pc' ls' st) := by
  subst hp
  exact OG.of fun s' T locs cl sl X target k => XS.lstoreN X.here C.1 rfl (C.d hd) rfl hl k
theorem OG.lstore (C : OC p s m meth c Z own nm bytes ml ret) {k : Nat} {v : Int64} (hd : decode bytes pc = .ok (.lstore k, 2)) (hl : storeLocals ls k (.long v) = some ls') (hp : pc + 2 = pc') : OG p l e R s m args below meth c n0 h (mkF m pc ls (.long v :: st)) (mkF m pc' ls' st) := by
  subst hp
  exact OG.of fun s' T locs cl sl X target k => XS.lstore X.here C.1 rfl (C.d hd) rfl hl k
theorem OG.astoreN (C : OC p s m meth c Z own nm bytes ml ret) {k : Fin 4} {v : Value} (hd : decode bytes pc = .ok (.astore_n k, 1)) (hv : v.isRef = true) (hl : storeLocals ls k.val v = some ls') (hp : pc + 1 = pc') : OG p l e R s m args below meth c n0 h (mkF m pc ls (v :: st)) (mkF m pc' ls' st) := by
  subst hp
  exact OG.of fun s' T locs cl sl X target k => XS.astoreN X.here C.1 rfl (C.d hd) rfl hv hl k
theorem OG.astore (C : OC p s m meth c Z own nm bytes ml ret) {k : Nat} {v : Value} (hd : decode bytes pc = .ok (.astore k, 2)) (hv : v.isRef = true) (hl : storeLocals ls k v = some ls') (hp : pc + 2 = pc') : OG p l e R s m args below meth c n0 h (mkF m pc ls (v :: st)) (mkF m pc' ls' st) := by
  subst hp
  exact OG.of fun s' T locs cl sl X target k => XS.astore X.here C.1 rfl (C.d hd) rfl hv hl k
theorem OG.iconst (C : OC p s m meth c Z own nm bytes ml ret) {i : Int} {z : Int32} (hd : decode bytes pc = .ok (.iconst i, 1)) (hz : Int32.ofInt i = z) (hp : pc + 1 = pc') : OG p l e R s m args below meth c n0 h (mkF m pc ls st) (mkF m pc' ls (.int z :: st)) := by
  subst hp hz
  exact OG.of fun s' T locs cl sl X target k => XS.iconst X.here C.1 rfl (C.d hd)  k
theorem OG.bipush (C : OC p s m meth c Z own nm bytes ml ret) {i : Int} {z : Int32} (hd : decode bytes pc = .ok (.bipush i, 2)) (hz : (Int8.ofInt i).toInt32 = z) (hp : pc + 2 = pc') : OG p l e R s m args below meth c n0 h (mkF m pc ls st) (mkF m pc' ls (.int z :: st)) := by
  subst hp hz
  exact OG.of fun s' T locs cl sl X target k => XS.bipush X.here C.1 rfl (C.d hd)  k
theorem OG.sipush (C : OC p s m meth c Z own nm bytes ml ret) {i : Int} {z : Int32} (hd : decode bytes pc = .ok (.sipush i, 3)) (hz : (Int16.ofInt i).toInt32 = z) (hp : pc + 3 = pc') : OG p l e R s m args below meth c n0 h (mkF m pc ls st) (mkF m pc' ls (.int z :: st)) := by
  subst hp hz
  exact OG.of fun s' T locs cl sl X target k => XS.sipush X.here C.1 rfl (C.d hd)  k
theorem OG.lconst (C : OC p s m meth c Z own nm bytes ml ret) {i : Fin 2} {z : Int64} (hd : decode bytes pc = .ok (.lconst i, 1)) (hz : Int64.ofNat i = z) (hp : pc + 1 = pc') : OG p l e R s m args below meth c n0 h (mkF m pc ls st) (mkF m pc' ls (.long z :: st)) := by
  subst hp hz
  exact OG.of fun s' T locs cl sl X target k => XS.lconst X.here C.1 rfl (C.d hd)  k
theorem OG.aconst_null (C : OC p s m meth c Z own nm bytes ml ret)  (hd : decode bytes pc = .ok (.aconst_null, 1))  (hp : pc + 1 = pc') : OG p l e R s m args below meth c n0 h (mkF m pc ls st) (mkF m pc' ls (.null :: st)) := by
  subst hp
  exact OG.of fun s' T locs cl sl X target k => XS.aconstNull X.here C.1 rfl (C.d hd)  k
theorem OG.iadd (C : OC p s m meth c Z own nm bytes ml ret) {x y : Int32} (hd : decode bytes pc = .ok (.iadd, 1))  (hp : pc + 1 = pc') : OG p l e R s m args below meth c n0 h (mkF m pc ls (.int y :: .int x :: st)) (mkF m pc' ls (.int (x + y) :: st)) := by
  subst hp
  exact OG.of fun s' T locs cl sl X target k => XS.iadd X.here C.1 rfl (C.d hd) rfl k
theorem OG.ladd (C : OC p s m meth c Z own nm bytes ml ret) {x y : Int64} (hd : decode bytes pc = .ok (.ladd, 1))  (hp : pc + 1 = pc') : OG p l e R s m args below meth c n0 h (mkF m pc ls (.long y :: .long x :: st)) (mkF m pc' ls (.long (x + y) :: st)) := by
  subst hp
  exact OG.of fun s' T locs cl sl X target k => XS.ladd X.here C.1 rfl (C.d hd) rfl k
theorem OG.isub (C : OC p s m meth c Z own nm bytes ml ret) {x y : Int32} (hd : decode bytes pc = .ok (.isub, 1))  (hp : pc + 1 = pc') : OG p l e R s m args below meth c n0 h (mkF m pc ls (.int y :: .int x :: st)) (mkF m pc' ls (.int (x - y) :: st)) := by
  subst hp
  exact OG.of fun s' T locs cl sl X target k => XS.isub X.here C.1 rfl (C.d hd) rfl k
theorem OG.lsub (C : OC p s m meth c Z own nm bytes ml ret) {x y : Int64} (hd : decode bytes pc = .ok (.lsub, 1))  (hp : pc + 1 = pc') : OG p l e R s m args below meth c n0 h (mkF m pc ls (.long y :: .long x :: st)) (mkF m pc' ls (.long (x - y) :: st)) := by
  subst hp
  exact OG.of fun s' T locs cl sl X target k => XS.lsub X.here C.1 rfl (C.d hd) rfl k
theorem OG.imul (C : OC p s m meth c Z own nm bytes ml ret) {x y : Int32} (hd : decode bytes pc = .ok (.imul, 1))  (hp : pc + 1 = pc') : OG p l e R s m args below meth c n0 h (mkF m pc ls (.int y :: .int x :: st)) (mkF m pc' ls (.int (x * y) :: st)) := by
  subst hp
  exact OG.of fun s' T locs cl sl X target k => XS.imul X.here C.1 rfl (C.d hd) rfl k
theorem OG.lmul (C : OC p s m meth c Z own nm bytes ml ret) {x y : Int64} (hd : decode bytes pc = .ok (.lmul, 1))  (hp : pc + 1 = pc') : OG p l e R s m args below meth c n0 h (mkF m pc ls (.long y :: .long x :: st)) (mkF m pc' ls (.long (x * y) :: st)) := by
  subst hp
  exact OG.of fun s' T locs cl sl X target k => XS.lmul X.here C.1 rfl (C.d hd) rfl k
theorem OG.iand (C : OC p s m meth c Z own nm bytes ml ret) {x y : Int32} (hd : decode bytes pc = .ok (.iand, 1))  (hp : pc + 1 = pc') : OG p l e R s m args below meth c n0 h (mkF m pc ls (.int y :: .int x :: st)) (mkF m pc' ls (.int (x &&& y) :: st)) := by
  subst hp
  exact OG.of fun s' T locs cl sl X target k => XS.iand X.here C.1 rfl (C.d hd) rfl k
theorem OG.land (C : OC p s m meth c Z own nm bytes ml ret) {x y : Int64} (hd : decode bytes pc = .ok (.land, 1))  (hp : pc + 1 = pc') : OG p l e R s m args below meth c n0 h (mkF m pc ls (.long y :: .long x :: st)) (mkF m pc' ls (.long (x &&& y) :: st)) := by
  subst hp
  exact OG.of fun s' T locs cl sl X target k => XS.land X.here C.1 rfl (C.d hd) rfl k
theorem OG.ior (C : OC p s m meth c Z own nm bytes ml ret) {x y : Int32} (hd : decode bytes pc = .ok (.ior, 1))  (hp : pc + 1 = pc') : OG p l e R s m args below meth c n0 h (mkF m pc ls (.int y :: .int x :: st)) (mkF m pc' ls (.int (x ||| y) :: st)) := by
  subst hp
  exact OG.of fun s' T locs cl sl X target k => XS.ior X.here C.1 rfl (C.d hd) rfl k
theorem OG.lor (C : OC p s m meth c Z own nm bytes ml ret) {x y : Int64} (hd : decode bytes pc = .ok (.lor, 1))  (hp : pc + 1 = pc') : OG p l e R s m args below meth c n0 h (mkF m pc ls (.long y :: .long x :: st)) (mkF m pc' ls (.long (x ||| y) :: st)) := by
  subst hp
  exact OG.of fun s' T locs cl sl X target k => XS.lor X.here C.1 rfl (C.d hd) rfl k
theorem OG.ixor (C : OC p s m meth c Z own nm bytes ml ret) {x y : Int32} (hd : decode bytes pc = .ok (.ixor, 1))  (hp : pc + 1 = pc') : OG p l e R s m args below meth c n0 h (mkF m pc ls (.int y :: .int x :: st)) (mkF m pc' ls (.int (x ^^^ y) :: st)) := by
  subst hp
  exact OG.of fun s' T locs cl sl X target k => XS.ixor X.here C.1 rfl (C.d hd) rfl k
theorem OG.lxor (C : OC p s m meth c Z own nm bytes ml ret) {x y : Int64} (hd : decode bytes pc = .ok (.lxor, 1))  (hp : pc + 1 = pc') : OG p l e R s m args below meth c n0 h (mkF m pc ls (.long y :: .long x :: st)) (mkF m pc' ls (.long (x ^^^ y) :: st)) := by
  subst hp
  exact OG.of fun s' T locs cl sl X target k => XS.lxor X.here C.1 rfl (C.d hd) rfl k
theorem OG.idiv (C : OC p s m meth c Z own nm bytes ml ret) {x y : Int32} (hd : decode bytes pc = .ok (.idiv, 1)) (hy : y ≠ 0) (hp : pc + 1 = pc') : OG p l e R s m args below meth c n0 h (mkF m pc ls (.int y :: .int x :: st)) (mkF m pc' ls (.int (x / y) :: st)) := by
  subst hp
  exact OG.of fun s' T locs cl sl X target k => XS.idiv X.here C.1 rfl (C.d hd) rfl hy k
theorem OG.ldiv (C : OC p s m meth c Z own nm bytes ml ret) {x y : Int64} (hd : decode bytes pc = .ok (.ldiv, 1)) (hy : y ≠ 0) (hp : pc + 1 = pc') : OG p l e R s m args below meth c n0 h (mkF m pc ls (.long y :: .long x :: st)) (mkF m pc' ls (.long (x / y) :: st)) := by
  subst hp
  exact OG.of fun s' T locs cl sl X target k => XS.ldiv X.here C.1 rfl (C.d hd) rfl hy k
theorem OG.ineg (C : OC p s m meth c Z own nm bytes ml ret) {x : Int32} (hd : decode bytes pc = .ok (.ineg, 1))  (hp : pc + 1 = pc') : OG p l e R s m args below meth c n0 h (mkF m pc ls (.int x :: st)) (mkF m pc' ls (.int (-x) :: st)) := by
  subst hp
  exact OG.of fun s' T locs cl sl X target k => XS.ineg X.here C.1 rfl (C.d hd) rfl k
theorem OG.lneg (C : OC p s m meth c Z own nm bytes ml ret) {x : Int64} (hd : decode bytes pc = .ok (.lneg, 1))  (hp : pc + 1 = pc') : OG p l e R s m args below meth c n0 h (mkF m pc ls (.long x :: st)) (mkF m pc' ls (.long (-x) :: st)) := by
  subst hp
  exact OG.of fun s' T locs cl sl X target k => XS.lneg X.here C.1 rfl (C.d hd) rfl k
theorem OG.i2l (C : OC p s m meth c Z own nm bytes ml ret) {x : Int32} (hd : decode bytes pc = .ok (.i2l, 1))  (hp : pc + 1 = pc') : OG p l e R s m args below meth c n0 h (mkF m pc ls (.int x :: st)) (mkF m pc' ls (.long x.toInt64 :: st)) := by
  subst hp
  exact OG.of fun s' T locs cl sl X target k => XS.i2l X.here C.1 rfl (C.d hd) rfl k
theorem OG.l2i (C : OC p s m meth c Z own nm bytes ml ret) {x : Int64} (hd : decode bytes pc = .ok (.l2i, 1))  (hp : pc + 1 = pc') : OG p l e R s m args below meth c n0 h (mkF m pc ls (.long x :: st)) (mkF m pc' ls (.int x.toInt32 :: st)) := by
  subst hp
  exact OG.of fun s' T locs cl sl X target k => XS.l2i X.here C.1 rfl (C.d hd) rfl k
theorem OG.i2b (C : OC p s m meth c Z own nm bytes ml ret) {x : Int32} (hd : decode bytes pc = .ok (.i2b, 1))  (hp : pc + 1 = pc') : OG p l e R s m args below meth c n0 h (mkF m pc ls (.int x :: st)) (mkF m pc' ls (.int x.toInt8.toInt32 :: st)) := by
  subst hp
  exact OG.of fun s' T locs cl sl X target k => XS.i2b X.here C.1 rfl (C.d hd) rfl k
theorem OG.i2c (C : OC p s m meth c Z own nm bytes ml ret) {x : Int32} (hd : decode bytes pc = .ok (.i2c, 1))  (hp : pc + 1 = pc') : OG p l e R s m args below meth c n0 h (mkF m pc ls (.int x :: st)) (mkF m pc' ls (.int x.toUInt32.toUInt16.toUInt32.toInt32 :: st)) := by
  subst hp
  exact OG.of fun s' T locs cl sl X target k => XS.i2c X.here C.1 rfl (C.d hd) rfl k
theorem OG.i2s (C : OC p s m meth c Z own nm bytes ml ret) {x : Int32} (hd : decode bytes pc = .ok (.i2s, 1))  (hp : pc + 1 = pc') : OG p l e R s m args below meth c n0 h (mkF m pc ls (.int x :: st)) (mkF m pc' ls (.int x.toInt16.toInt32 :: st)) := by
  subst hp
  exact OG.of fun s' T locs cl sl X target k => XS.i2s X.here C.1 rfl (C.d hd) rfl k
theorem OG.ishl (C : OC p s m meth c Z own nm bytes ml ret) {x y : Int32} (hd : decode bytes pc = .ok (.ishl, 1))  (hp : pc + 1 = pc') : OG p l e R s m args below meth c n0 h (mkF m pc ls (.int y :: .int x :: st)) (mkF m pc' ls (.int (x <<< (y &&& 31)) :: st)) := by
  subst hp
  exact OG.of fun s' T locs cl sl X target k => XS.ishl X.here C.1 rfl (C.d hd) rfl k
theorem OG.ishr (C : OC p s m meth c Z own nm bytes ml ret) {x y : Int32} (hd : decode bytes pc = .ok (.ishr, 1))  (hp : pc + 1 = pc') : OG p l e R s m args below meth c n0 h (mkF m pc ls (.int y :: .int x :: st)) (mkF m pc' ls (.int (x >>> (y &&& 31)) :: st)) := by
  subst hp
  exact OG.of fun s' T locs cl sl X target k => XS.ishr X.here C.1 rfl (C.d hd) rfl k
theorem OG.iushr (C : OC p s m meth c Z own nm bytes ml ret) {x y : Int32} (hd : decode bytes pc = .ok (.iushr, 1))  (hp : pc + 1 = pc') : OG p l e R s m args below meth c n0 h (mkF m pc ls (.int y :: .int x :: st)) (mkF m pc' ls (.int (x.toUInt32 >>> (y &&& 31).toUInt32).toInt32 :: st)) := by
  subst hp
  exact OG.of fun s' T locs cl sl X target k => XS.iushr X.here C.1 rfl (C.d hd) rfl k
theorem OG.lshl (C : OC p s m meth c Z own nm bytes ml ret) {x : Int64} {y : Int32} (hd : decode bytes pc = .ok (.lshl, 1))  (hp : pc + 1 = pc') : OG p l e R s m args below meth c n0 h (mkF m pc ls (.int y :: .long x :: st)) (mkF m pc' ls (.long (x <<< (y &&& 0x3f).toInt64) :: st)) := by
  subst hp
  exact OG.of fun s' T locs cl sl X target k => XS.lshl X.here C.1 rfl (C.d hd) rfl k
theorem OG.lshr (C : OC p s m meth c Z own nm bytes ml ret) {x : Int64} {y : Int32} (hd : decode bytes pc = .ok (.lshr, 1))  (hp : pc + 1 = pc') : OG p l e R s m args below meth c n0 h (mkF m pc ls (.int y :: .long x :: st)) (mkF m pc' ls (.long (x >>> (y &&& 0x3f).toInt64) :: st)) := by
  subst hp
  exact OG.of fun s' T locs cl sl X target k => XS.lshr X.here C.1 rfl (C.d hd) rfl k
theorem OG.lushr (C : OC p s m meth c Z own nm bytes ml ret) {x : Int64} {y : Int32} (hd : decode bytes pc = .ok (.lushr, 1))  (hp : pc + 1 = pc') : OG p l e R s m args below meth c n0 h (mkF m pc ls (.int y :: .long x :: st)) (mkF m pc' ls (.long (x.toUInt64 >>> (y &&& 0x3f).toInt64.toUInt64).toInt64 :: st)) := by
  subst hp
  exact OG.of fun s' T locs cl sl X target k => XS.lushr X.here C.1 rfl (C.d hd) rfl k
theorem OG.lcmp (C : OC p s m meth c Z own nm bytes ml ret) {x y : Int64} (hd : decode bytes pc = .ok (.lcmp, 1))  (hp : pc + 1 = pc') : OG p l e R s m args below meth c n0 h (mkF m pc ls (.long y :: .long x :: st)) (mkF m pc' ls (.int (lcmpW x y) :: st)) := by
  subst hp
  exact OG.of fun s' T locs cl sl X target k => XS.lcmp X.here C.1 rfl (C.d hd) rfl k
theorem OG.dup (C : OC p s m meth c Z own nm bytes ml ret) {x : Value} (hd : decode bytes pc = .ok (.dup, 1)) (hc : x.category = 1) (hp : pc + 1 = pc') : OG p l e R s m args below meth c n0 h (mkF m pc ls (x :: st)) (mkF m pc' ls (x :: x :: st)) := by
  subst hp
  exact OG.of fun s' T locs cl sl X target k => XS.dup X.here C.1 rfl (C.d hd) rfl hc k
theorem OG.pop (C : OC p s m meth c Z own nm bytes ml ret) {x : Value} (hd : decode bytes pc = .ok (.pop, 1)) (hc : x.category = 1) (hp : pc + 1 = pc') : OG p l e R s m args below meth c n0 h (mkF m pc ls (x :: st)) (mkF m pc' ls st) := by
  subst hp
  exact OG.of fun s' T locs cl sl X target k => XS.pop X.here C.1 rfl (C.d hd) rfl hc k
theorem OG.iinc (C : OC p s m meth c Z own nm bytes ml ret) {k : Nat} {i : Int} {x z : Int32} (hd : decode bytes pc = .ok (.iinc k i, 3)) (hz : Int32.ofInt i = z) (hl : ls[k]? = some (.val (.int x))) (hl' : storeLocals ls k (.int (x + z)) = some ls') (hp : pc + 3 = pc') : OG p l e R s m args below meth c n0 h (mkF m pc ls st) (mkF m pc' ls' st) := by
  subst hp hz
  exact OG.of fun s' T locs cl sl X target k => XS.iinc X.here C.1 rfl (C.d hd) hl hl' k
theorem OG.goto (C : OC p s m meth c Z own nm bytes ml ret) {o : Int} (hd : decode bytes pc = .ok (.goto o, 3)) (ho : 0 ≤ (pc : Int) + o) (hp : ((pc : Int) + o).toNat = pc') : OG p l e R s m args below meth c n0 h (mkF m pc ls st) (mkF m pc' ls st) := OG.of fun s' T locs cl sl X target k => XS.goto X.here C.1 rfl (pc0 := pc) rfl (C.d hd) ho hp k
theorem OG.ifYes (C : OC p s m meth c Z own nm bytes ml ret) {o : Int} {cd : ClassFile.Cond} {x : Int32} (hd : decode bytes pc = .ok (.ifCond cd o, 3)) (hc : ifCond.holds cd x = true) (ho : 0 ≤ (pc : Int) + o) (hp : ((pc : Int) + o).toNat = pc') : OG p l e R s m args below meth c n0 h (mkF m pc ls (.int x :: st)) (mkF m pc' ls st) := OG.of fun s' T locs cl sl X target k => XS.ifYes X.here C.1 rfl (pc0 := pc) rfl (C.d hd) rfl hc ho hp k
theorem OG.ifNo (C : OC p s m meth c Z own nm bytes ml ret) {o : Int} {cd : ClassFile.Cond} {x : Int32} (hd : decode bytes pc = .ok (.ifCond cd o, 3)) (hc : ifCond.holds cd x = false) (hp : pc + 3 = pc') : OG p l e R s m args below meth c n0 h (mkF m pc ls (.int x :: st)) (mkF m pc' ls st) := by
  subst hp
  exact OG.of fun s' T locs cl sl X target k => XS.ifNo X.here C.1 rfl (C.d hd) rfl hc k
theorem OG.icmpYes (C : OC p s m meth c Z own nm bytes ml ret) {o : Int} {cd : ClassFile.Cond} {x y : Int32} (hd : decode bytes pc = .ok (.if_icmp cd o, 3)) (hc : if_icmp.holds cd x y = true) (ho : 0 ≤ (pc : Int) + o) (hp : ((pc : Int) + o).toNat = pc') : OG p l e R s m args below meth c n0 h (mkF m pc ls (.int y :: .int x :: st)) (mkF m pc' ls st) := OG.of fun s' T locs cl sl X target k => XS.icmpYes X.here C.1 rfl (pc0 := pc) rfl (C.d hd) rfl hc ho hp k
theorem OG.icmpNo (C : OC p s m meth c Z own nm bytes ml ret) {o : Int} {cd : ClassFile.Cond} {x y : Int32} (hd : decode bytes pc = .ok (.if_icmp cd o, 3)) (hc : if_icmp.holds cd x y = false) (hp : pc + 3 = pc') : OG p l e R s m args below meth c n0 h (mkF m pc ls (.int y :: .int x :: st)) (mkF m pc' ls st) := by
  subst hp
  exact OG.of fun s' T locs cl sl X target k => XS.icmpNo X.here C.1 rfl (C.d hd) rfl hc k
theorem OG.ifnullYes (C : OC p s m meth c Z own nm bytes ml ret) {o : Int}  (hd : decode bytes pc = .ok (.ifnull o, 3))  (ho : 0 ≤ (pc : Int) + o) (hp : ((pc : Int) + o).toNat = pc') : OG p l e R s m args below meth c n0 h (mkF m pc ls (.null :: st)) (mkF m pc' ls st) := OG.of fun s' T locs cl sl X target k => XS.ifnullYes X.here C.1 rfl (pc0 := pc) rfl (C.d hd) rfl ho hp k
theorem OG.ifnullNo (C : OC p s m meth c Z own nm bytes ml ret) {o : Int} {b : Addr} (hd : decode bytes pc = .ok (.ifnull o, 3))  (hp : pc + 3 = pc') : OG p l e R s m args below meth c n0 h (mkF m pc ls (.ref b :: st)) (mkF m pc' ls st) := by
  subst hp
  exact OG.of fun s' T locs cl sl X target k => XS.ifnullNo X.here C.1 rfl (C.d hd) rfl k
theorem OG.ifnonnullYes (C : OC p s m meth c Z own nm bytes ml ret) {o : Int} {b : Addr} (hd : decode bytes pc = .ok (.ifnonnull o, 3))  (ho : 0 ≤ (pc : Int) + o) (hp : ((pc : Int) + o).toNat = pc') : OG p l e R s m args below meth c n0 h (mkF m pc ls (.ref b :: st)) (mkF m pc' ls st) := OG.of fun s' T locs cl sl X target k => XS.ifnonnullYes X.here C.1 rfl (pc0 := pc) rfl (C.d hd) rfl ho hp k
theorem OG.ifnonnullNo (C : OC p s m meth c Z own nm bytes ml ret) {o : Int}  (hd : decode bytes pc = .ok (.ifnonnull o, 3))  (hp : pc + 3 = pc') : OG p l e R s m args below meth c n0 h (mkF m pc ls (.null :: st)) (mkF m pc' ls st) := by
  subst hp
  exact OG.of fun s' T locs cl sl X target k => XS.ifnonnullNo X.here C.1 rfl (C.d hd) rfl k
theorem OG.irem (C : OC p s m meth c Z own nm bytes ml ret) {x y : Int32} (hd : decode bytes pc = .ok (.irem, 1)) (hy : y ≠ 0) (hp : pc + 1 = pc') : OG p l e R s m args below meth c n0 h (mkF m pc ls (.int y :: .int x :: st)) (mkF m pc' ls (.int (x % y) :: st)) := by
  subst hp
  refine OG.of fun s' T locs cl sl X target k => XS.irem X.here C.1 rfl (C.d hd) rfl hy ?_
  rw [irem_eq_mod x y]; exact k
theorem OG.lrem (C : OC p s m meth c Z own nm bytes ml ret) {x y : Int64} (hd : decode bytes pc = .ok (.lrem, 1)) (hy : y ≠ 0) (hp : pc + 1 = pc') : OG p l e R s m args below meth c n0 h (mkF m pc ls (.long y :: .long x :: st)) (mkF m pc' ls (.long (x % y) :: st)) := by
  subst hp
  refine OG.of fun s' T locs cl sl X target k => XS.lrem X.here C.1 rfl (C.d hd) rfl hy ?_
  rw [lrem_mod x y]; exact k
theorem OG.acmp (C : OC p s m meth c Z own nm bytes ml ret) {o : Int} {cd : ACond} {x y : Value} {same : Bool} (hd : decode bytes pc = .ok (.if_acmp cd o, 3)) (h1 : x.isRef = true) (h2 : y.isRef = true) (hq : decide (x = y) = same) (ho : 0 ≤ (pc : Int) + o) (hp : pc' = if acV cd same = true then ((pc : Int) + o).toNat else pc + 3) :
    OG p l e R s m args below meth c n0 h (mkF m pc ls (y :: x :: st)) (mkF m pc' ls st) :=
  OG.of fun s' T locs cl sl X target k => RoadKit.acmp X C.1 rfl h1 h2 (pc0 := pc) rfl (C.d hd) rfl hq ho hp k
theorem OG.ldcI (C : OC p s m meth c Z own nm bytes ml ret) {i : Nat} {v : Int32} (w : (Cond.constant own i v).before a0 Z = true) (hd : decode bytes pc = .ok (.ldc i, 2)) (hp : pc + 2 = pc') : OG p l e R s m args below meth c n0 h (mkF m pc ls st) (mkF m pc' ls (.int v :: st)) := by
  subst hp
  rintro T locs cl sl ⟨X, N0, e0, bc, bs⟩
  exact ⟨T, locs, ⟨X, N0, e0, bc, bs⟩, fun target k => X.ldcInt C.1 C.2.2.2.1 (mv C.2.2.1 w) (g := mkF m pc ls st) rfl (C.d hd) target k⟩
theorem OG.ldcL (C : OC p s m meth c Z own nm bytes ml ret) {i : Nat} {v : Int64} (w : (Cond.constantLong own i v).before a0 Z = true) (hd : decode bytes pc = .ok (.ldc2_w i, 3)) (hp : pc + 3 = pc') : OG p l e R s m args below meth c n0 h (mkF m pc ls st) (mkF m pc' ls (.long v :: st)) := by
  subst hp
  rintro T locs cl sl ⟨X, N0, e0, bc, bs⟩
  exact ⟨T, locs, ⟨X, N0, e0, bc, bs⟩, fun target k => X.ldc2Long C.1 C.2.2.2.1 (mv C.2.2.1 w) (g := mkF m pc ls st) rfl (C.d hd) target k⟩
theorem OG.ldcS (C : OC p s m meth c Z own nm bytes ml ret) {i : Nat} {t : String} {a : Addr} (w : (Cond.stringRef own i t).before a0 Z = true) (F : Lit Z own i a) (hd : decode bytes pc = .ok (.ldc i, 2)) (hp : pc + 2 = pc') : OG p l e R s m args below meth c n0 h (mkF m pc ls st) (mkF m pc' ls (.ref a :: st)) := by
  subst hp
  rintro T locs cl sl ⟨X, N0, e0, bc, bs⟩
  exact ⟨T, locs, ⟨X, N0, e0, bc, bs⟩, fun target k => ldcR X C.1 C.2.2.1 C.2.2.2.1 w F (g := mkF m pc ls st) rfl (C.d hd) target k⟩
theorem OG.getF (C : OC p s m meth c Z own nm bytes ml ret) {R0 O n d host : String} {i : Nat} {a : Addr} {v : Value} (w : (Cond.fieldLink own i R0 n d).before a0 Z = true ∨ (Cond.fieldLinkNest own i R0 n d host).before a0 Z = true) (via : Via Z R0 O n d) (F : Fld Z h a O n d v) (hd : decode bytes pc = .ok (.getfield i, 3)) (hp : pc + 3 = pc') :
    OG p l e R s m args below meth c n0 h (mkF m pc ls (.ref a :: st)) (mkF m pc' ls (v :: st)) := by
  subst hp
  rintro T locs cl sl ⟨X, N0, e0, bc, bs⟩
  obtain ⟨T', X', e', k⟩ := RoadKit.getF X C.1 C.2.2.1 C.2.2.2.1 w via e0 F (g := mkF m pc ls (.ref a :: st)) rfl rfl (C.d hd)
  exact ⟨T', locs, ⟨X', N0, e', bc, bs⟩, k⟩
theorem OG.getS (C : OC p s m meth c Z own nm bytes ml ret) {R0 O n d host : String} {i : Nat} {v : Value} (w : (Cond.fieldLink own i R0 n d).before a0 Z = true ∨ (Cond.fieldLinkNest own i R0 n d host).before a0 Z = true) (via : Via Z R0 O n d) (F : Sta Z h O n d v) (hd : decode bytes pc = .ok (.getstatic i, 3)) (hp : pc + 3 = pc') :
    OG p l e R s m args below meth c n0 h (mkF m pc ls st) (mkF m pc' ls (v :: st)) := by
  subst hp
  rintro T locs cl sl ⟨X, N0, e0, bc, bs⟩
  obtain ⟨T', X', e', k⟩ := getS2 X C.1 C.2.2.1 C.2.2.2.1 w via e0 F (g := mkF m pc ls st) rfl (C.d hd)
  exact ⟨T', locs, ⟨X', N0, e', bc, bs⟩, k⟩
/-- an array and what stands in it -/
def OA (Z : State) (h : Heap) (a : Addr) (ty : FieldType) (vs : List Value) : Prop := ∃ c : Cell, Arr Z h a c ty ∧ c.slots.toList = vs
theorem OA.lt {a : Addr} {ty : FieldType} {vs : List Value} (A : OA Z h a ty vs) : a < h.size := by obtain ⟨c, A, -⟩ := A; exact A.lt
theorem OA.ext {h' : Heap} {a : Addr} {ty : FieldType} {vs : List Value} (A : OA Z h a ty vs) (E : Ext h h') : OA Z h' a ty vs := by obtain ⟨c, A, r⟩ := A; exact ⟨c, A.ext E, r⟩
theorem OA.other {h' : Heap} {a b : Addr} {k : Nat} {v : Value} {ty : FieldType} {vs : List Value} (A : OA Z h a ty vs) (W : Wr h h' b k v) (q : a ≠ b) : OA Z h' a ty vs := by obtain ⟨c, A, r⟩ := A; exact ⟨c, A.other W q, r⟩
theorem OA.same {h' : Heap} {a : Addr} {k : Nat} {v : Value} {ty : FieldType} {vs : List Value} (A : OA Z h a ty vs) (W : Wr h h' a k v) : OA Z h' a ty (vs.set k v) := by
  obtain ⟨c, A, r⟩ := A
  exact ⟨_, A.same W, by subst r; simp [Cell.setSlot]⟩
theorem OA.keep {h' : Heap} {a : Addr} {ws : List Addr} {ty : FieldType} {vs : List Value} (A : OA Z h a ty vs) (W : Keep h h' ws) (q : a ∉ ws) : OA Z h' a ty vs := by obtain ⟨c, A, r⟩ := A; exact ⟨c, ⟨W.2.1 a c A.1 q, A.2⟩, r⟩
theorem OA.inb {c : Cell} {vs : List Value} {j : Int32} (r : c.slots.toList = vs) (q : 0 ≤ j.toInt ∧ j.toInt < vs.length) : ¬ (j < 0 ∨ c.slots.size ≤ j.toNatClampNeg) := by
  have : c.slots.size = vs.length := by rw [← r]; simp
  rw [Int32.lt_iff_toInt_lt, Int32.toNatClampNeg]
  simp only [Int32.reduceToInt]; omega
theorem own_ib {j : Int32} {vs : List Value} {n : Nat} (q : vs.length = n) (r : 0 ≤ j.toInt ∧ j.toInt < (n : Int)) : 0 ≤ j.toInt ∧ j.toInt < vs.length := by rw [q]; exact r
theorem OA.new {k : ClassId} {a : Addr} {ty : FieldType} {z : Int32} {n : Nat} (A : Arr Z h a (newA k ty z) ty) (q : z.toNatClampNeg = n) : OA Z h a ty (List.replicate n (defaultValue ty)) := ⟨_, A, by subst q; simp [newA]⟩
theorem OG.laload (C : OC p s m meth c Z own nm bytes ml ret) {a : Addr} {j : Int32} {vs : List Value} {v : Value} (F : OA Z h a .long vs) (q : 0 ≤ j.toInt ∧ j.toInt < vs.length) (hv : vs[j.toNatClampNeg]? = some v) (hd : decode bytes pc = .ok (.laload, 1)) (hp : pc + 1 = pc') :
    OG p l e R s m args below meth c n0 h (mkF m pc ls (.int j :: .ref a :: st)) (mkF m pc' ls (v :: st)) := by
  subst hp
  rintro T locs cl sl ⟨X, N0, e0, bc, bs⟩
  obtain ⟨cc, A, r⟩ := F
  exact ⟨T, locs, ⟨X, N0, e0, bc, bs⟩, X.laload C.1 (by rw [e0]; exact A.1) (State.isArrayOf_alike C.2.2.1.alike A.2.1) A.2.2 (OA.inb r q) (by rw [← r] at hv; simpa using hv) (g := mkF m pc ls (.int j :: .ref a :: st)) rfl rfl (C.d hd)⟩
theorem OG.iaload (C : OC p s m meth c Z own nm bytes ml ret) {a : Addr} {j : Int32} {vs : List Value} {v : Value} (F : OA Z h a .int vs) (q : 0 ≤ j.toInt ∧ j.toInt < vs.length) (hv : vs[j.toNatClampNeg]? = some v) (hd : decode bytes pc = .ok (.iaload, 1)) (hp : pc + 1 = pc') :
    OG p l e R s m args below meth c n0 h (mkF m pc ls (.int j :: .ref a :: st)) (mkF m pc' ls (v :: st)) := by
  subst hp
  rintro T locs cl sl ⟨X, N0, e0, bc, bs⟩
  obtain ⟨cc, A, r⟩ := F
  exact ⟨T, locs, ⟨X, N0, e0, bc, bs⟩, X.iaload C.1 (by rw [e0]; exact A.1) (State.isArrayOf_alike C.2.2.1.alike A.2.1) A.2.2 (OA.inb r q) (by rw [← r] at hv; simpa using hv) (g := mkF m pc ls (.int j :: .ref a :: st)) rfl rfl (C.d hd)⟩
theorem OG.caload (C : OC p s m meth c Z own nm bytes ml ret) {a : Addr} {j : Int32} {vs : List Value} {v : Value} (F : OA Z h a .char vs) (q : 0 ≤ j.toInt ∧ j.toInt < vs.length) (hv : vs[j.toNatClampNeg]? = some v) (hd : decode bytes pc = .ok (.caload, 1)) (hp : pc + 1 = pc') :
    OG p l e R s m args below meth c n0 h (mkF m pc ls (.int j :: .ref a :: st)) (mkF m pc' ls (v :: st)) := by
  subst hp
  rintro T locs cl sl ⟨X, N0, e0, bc, bs⟩
  obtain ⟨cc, A, r⟩ := F
  exact ⟨T, locs, ⟨X, N0, e0, bc, bs⟩, X.caload C.1 (by rw [e0]; exact A.1) (State.isArrayOf_alike C.2.2.1.alike A.2.1) A.2.2 (OA.inb r q) (by rw [← r] at hv; simpa using hv) (g := mkF m pc ls (.int j :: .ref a :: st)) rfl rfl (C.d hd)⟩
theorem OG.baload (C : OC p s m meth c Z own nm bytes ml ret) {a : Addr} {j : Int32} {vs : List Value} {v : Value} (F : OA Z h a .byte vs) (q : 0 ≤ j.toInt ∧ j.toInt < vs.length) (hv : vs[j.toNatClampNeg]? = some v) (hd : decode bytes pc = .ok (.baload, 1)) (hp : pc + 1 = pc') :
    OG p l e R s m args below meth c n0 h (mkF m pc ls (.int j :: .ref a :: st)) (mkF m pc' ls (v :: st)) := by
  subst hp
  rintro T locs cl sl ⟨X, N0, e0, bc, bs⟩
  obtain ⟨cc, A, r⟩ := F
  exact ⟨T, locs, ⟨X, N0, e0, bc, bs⟩, X.baloadBytes C.1 (by rw [e0]; exact A.1) (State.isArrayOf_alike C.2.2.1.alike A.2.1) A.2.2 (OA.inb r q) (by rw [← r] at hv; simpa using hv) (g := mkF m pc ls (.int j :: .ref a :: st)) rfl rfl (C.d hd)⟩
theorem OG.aaload (C : OC p s m meth c Z own nm bytes ml ret) {a : Addr} {j : Int32} {ty : FieldType} {vs : List Value} {v : Value} (F : OA Z h a ty vs) (ht : ty.isReference = true) (q : 0 ≤ j.toInt ∧ j.toInt < vs.length) (hv : vs[j.toNatClampNeg]? = some v) (hd : decode bytes pc = .ok (.aaload, 1)) (hp : pc + 1 = pc') :
    OG p l e R s m args below meth c n0 h (mkF m pc ls (.int j :: .ref a :: st)) (mkF m pc' ls (v :: st)) := by
  subst hp
  rintro T locs cl sl ⟨X, N0, e0, bc, bs⟩
  obtain ⟨cc, A, r⟩ := F
  exact ⟨T, locs, ⟨X, N0, e0, bc, bs⟩, X.aaload C.1 (by rw [e0]; exact A.1) (State.isArrayOf_alike C.2.2.1.alike A.2.1) ht A.2.2 (OA.inb r q) (by rw [← r] at hv; simpa using hv) (g := mkF m pc ls (.int j :: .ref a :: st)) rfl rfl (C.d hd)⟩
theorem OG.arraylength (C : OC p s m meth c Z own nm bytes ml ret) {a : Addr} {ty : FieldType} {vs : List Value} {z : Int32} (F : OA Z h a ty vs) (hz : vs.length.toInt32 = z) (hd : decode bytes pc = .ok (.arraylength, 1)) (hp : pc + 1 = pc') :
    OG p l e R s m args below meth c n0 h (mkF m pc ls (.ref a :: st)) (mkF m pc' ls (.int z :: st)) := by
  subst hp hz
  rintro T locs cl sl ⟨X, N0, e0, bc, bs⟩
  obtain ⟨cc, A, r⟩ := F
  refine ⟨T, locs, ⟨X, N0, e0, bc, bs⟩, fun t k => X.arraylength C.1 (by rw [e0]; exact A.1) (State.isArrayOf_alike C.2.2.1.alike A.2.1) (g := mkF m pc ls (.ref a :: st)) rfl rfl (C.d hd) t ?_⟩
  have : cc.slots.size = vs.length := by rw [← r]; simp
  rw [this]; exact k
/-! returns -/
theorem OW.retI (C : OC p s m meth c Z own nm bytes ml (some .int)) {z : Int32} (hd : decode bytes pc = .ok (.ireturn, 1)) (hK : cl ≤ K) (hN : sl ≤ N) (hQ : Q (some (.int z)) h) : OW p l e R s m args below meth c n0 Q K N h cl sl (mkF m pc ls (.int z :: st)) := fun T locs ⟨X, N0, e0, bc, bs⟩ => by
  obtain ⟨fs, hr, hrun, hended, hW, hsame⟩ := X.leave (v := some (.int z)) (fun q => by rw [C.2.2.2.2.2.1] at q; cases q) C.2.2.2.2.2.2.1
  exact ⟨_, _, retOut X C.1 C.2.2.2.2.2.1 rfl (Or.inl ⟨rfl, Or.inl rfl, z, rfl⟩) (C.d hd) hr, hrun, hended, _, locs, rfl, ⟨by show Q _ T.heap; rw [e0]; exact hQ, N0⟩, ⟨_, rfl⟩, hW, hsame.mono hK hN⟩
theorem OW.retN {t : FieldType} (C : OC p s m meth c Z own nm bytes ml (some t)) {z : Int32} (ht : t = .boolean ∨ t = .byte ∨ t = .char ∨ t = .short) (hd : decode bytes pc = .ok (.ireturn, 1)) (hK : cl ≤ K) (hN : sl ≤ N) (hQ : Q (some (.int (nar t z))) h) : OW p l e R s m args below meth c n0 Q K N h cl sl (mkF m pc ls (.int z :: st)) := fun T locs ⟨X, N0, e0, bc, bs⟩ => by
  obtain ⟨fs, hr, hrun, hended, hW, hsame⟩ := X.leave (v := some (.int (nar t z))) (fun q => by rw [C.2.2.2.2.2.1] at q; cases q) C.2.2.2.2.2.2.1
  exact ⟨_, _, RoadKit.retN X C.1 C.2.2.2.2.2.1 ht (C.d hd) hr, hrun, hended, _, locs, rfl, ⟨by show Q _ T.heap; rw [e0]; exact hQ, N0⟩, ⟨_, rfl⟩, hW, hsame.mono hK hN⟩
theorem OW.retL (C : OC p s m meth c Z own nm bytes ml (some .long)) {z : Int64} (hd : decode bytes pc = .ok (.lreturn, 1)) (hK : cl ≤ K) (hN : sl ≤ N) (hQ : Q (some (.long z)) h) : OW p l e R s m args below meth c n0 Q K N h cl sl (mkF m pc ls (.long z :: st)) := fun T locs ⟨X, N0, e0, bc, bs⟩ => by
  obtain ⟨fs, hr, hrun, hended, hW, hsame⟩ := X.leave (v := some (.long z)) (fun q => by rw [C.2.2.2.2.2.1] at q; cases q) C.2.2.2.2.2.2.1
  exact ⟨_, _, retOut X C.1 C.2.2.2.2.2.1 rfl (Or.inr (Or.inl ⟨rfl, rfl, z, rfl⟩)) (C.d hd) hr, hrun, hended, _, locs, rfl, ⟨by show Q _ T.heap; rw [e0]; exact hQ, N0⟩, ⟨_, rfl⟩, hW, hsame.mono hK hN⟩
theorem OW.retA {t : FieldType} (C : OC p s m meth c Z own nm bytes ml (some t)) {v : Value} (ht : t.isReference = true) (hv : v.isRef = true) (hd : decode bytes pc = .ok (.areturn, 1)) (hK : cl ≤ K) (hN : sl ≤ N) (hQ : Q (some v) h) : OW p l e R s m args below meth c n0 Q K N h cl sl (mkF m pc ls (v :: st)) := fun T locs ⟨X, N0, e0, bc, bs⟩ => by
  have hn : narrow t v = v := by cases t <;> first | (cases ht; done) | (cases v <;> rfl)
  obtain ⟨fs, hr, hrun, hended, hW, hsame⟩ := X.leave (v := some v) (fun q => by rw [C.2.2.2.2.2.1] at q; cases q) C.2.2.2.2.2.2.1
  exact ⟨_, _, retOut X C.1 C.2.2.2.2.2.1 hn (Or.inr (Or.inr (Or.inr (Or.inr ⟨rfl, ht, hv⟩)))) (C.d hd) hr, hrun, hended, _, locs, rfl, ⟨by show Q _ T.heap; rw [e0]; exact hQ, N0⟩, ⟨_, rfl⟩, hW, hsame.mono hK hN⟩
theorem OW.retV (C : OC p s m meth c Z own nm bytes ml none) (hd : decode bytes pc = .ok (.return_, 1)) (hK : cl ≤ K) (hN : sl ≤ N) (hQ : Q none h) : OW p l e R s m args below meth c n0 Q K N h cl sl (mkF m pc ls []) := fun T locs ⟨X, N0, e0, bc, bs⟩ => by
  obtain ⟨fs, hr, hrun, hended, hW, hsame⟩ := X.leave (v := none) (fun _ => rfl) C.2.2.2.2.2.2.1
  exact ⟨_, _, X.returnOut C.1 C.2.2.2.2.2.1 (C.d hd) hr, hrun, hended, _, locs, rfl, ⟨by show Q _ T.heap; rw [e0]; exact hQ, N0⟩, ⟨_, rfl⟩, hW, hsame.mono hK hN⟩
/-! the heap: new, putfield, arrays -/
theorem OW.putF (C : OC p s m meth c Z own nm bytes ml ret) {R0 O n d host Cl : String} {i kk : Nat} {ty : FieldType} {a : Addr} {v old : Value} (w : (Cond.fieldLink own i R0 n d).before a0 Z = true ∨ (Cond.fieldLinkNest own i R0 n d host).before a0 Z = true) (via : Via Z R0 O n d) (F : Fld Z h a O n d old) (E : Exa Z h a Cl)
    (L : (Cond.lays Cl O n d).before a0 Z = true ∨ ((Cond.laysFinal Cl O n d).before a0 Z = true ∧ own = O ∧ nm = "<init>")) (wi : (Cond.instantiable Cl kk).before a0 Z = true) (hty : parseFieldDescriptor d = some ty) (hn : narrow ty v = v) (hf : fits ty v = true) (hna : n0 ≤ a) (hd : decode bytes pc = .ok (.putfield i, 3)) (hp : pc + 3 = pc')
    (k : ∀ h', Wr h h' a (slotOf Z O n d) v → OW p l e R s m args below meth c n0 Q K N h' cl sl (mkF m pc' ls st)) : OW p l e R s m args below meth c n0 Q K N h cl sl (mkF m pc ls (v :: .ref a :: st)) := fun T locs ⟨X, N0, e0, bc, bs⟩ => by
  subst hp
  obtain ⟨T', h', X', e', W, kk⟩ := RoadKit.putF X C.1 C.2.2.1 C.2.2.2.1 w via e0 F E (L.imp id fun q => ⟨q.1, q.2.1, C.2.2.2.2.2.2.2.trans q.2.2⟩) wi hty hn hf (g := mkF m pc ls (v :: .ref a :: st)) rfl rfl (C.d hd)
  obtain ⟨s₂, o, q, r⟩ := k h' W T' _ ⟨X', Fr.snoc X' N0 hna, e', bc, bs⟩
  exact ⟨s₂, o, kk _ q, r⟩
theorem OW.newO (C : OC p s m meth c Z own nm bytes ml ret) {Cl : String} {i nn : Nat} (w : (Cond.classLink own i Cl).before a0 Z = true) (wi : (Cond.instantiable Cl nn).before a0 Z = true) (wz : (Cond.initialized Cl).before a0 Z = true) (hd : decode bytes pc = .ok (.new i, 3)) (hc : cl + 1 ≤ R.cells) (hl : sl + nn ≤ R.slots) (hp : pc + 3 = pc')
    (k : ∀ (a : Addr) h', h.size = a → Ext h h' → Exa Z h' a Cl → (∀ {O nm d : String} {ty : FieldType}, Laid Z a0 Cl O nm d → parseFieldDescriptor d = some ty → Fld Z h' a O nm d (defaultValue ty)) → OW p l e R s m args below meth c n0 Q K N h' (cl + 1) (sl + nn) (mkF m pc' ls (.ref a :: st))) : OW p l e R s m args below meth c n0 Q K N h cl sl (mkF m pc ls st) := fun T locs ⟨X, N0, e0, bc, bs⟩ => by
  subst hp
  obtain ⟨T', h', X', e', E, A, D, -, kk⟩ := RoadKit.newO X C.1 C.2.2.1 C.2.2.2.1 w wi wz e0 (g := mkF m pc ls st) rfl (C.d hd) hc hl
  obtain ⟨s₂, o, q, r⟩ := k _ h' rfl E A D T' _ ⟨X', N0, e', hc, hl⟩
  exact ⟨s₂, o, kk _ q, r⟩
theorem OW.newP (C : OC p s m meth c Z own nm bytes ml ret) {aty : ArrayType} {n : Int32} {cap : Nat} {ty : FieldType} (hty : newarray.typeOf aty = ty) (w : (Cond.arrayClass ty).before a0 Z = true) (hn : ¬ n < 0) (hcap : n.toNatClampNeg = cap) (hb : cap * 8 ≤ 536870912) (hd : decode bytes pc = .ok (.newarray aty, 2)) (hc : cl + 1 ≤ R.cells) (hl : sl + cap ≤ R.slots) (hp : pc + 2 = pc')
    (k : ∀ (a : Addr) h', h.size = a → Ext h h' → OA Z h' a ty (List.replicate cap (defaultValue ty)) → OW p l e R s m args below meth c n0 Q K N h' (cl + 1) (sl + cap) (mkF m pc' ls (.ref a :: st))) : OW p l e R s m args below meth c n0 Q K N h cl sl (mkF m pc ls (.int n :: st)) := fun T locs ⟨X, N0, e0, bc, bs⟩ => by
  subst hp hty
  obtain ⟨T', h', cA, X', e', E, A, kk⟩ := RoadKit.newP X C.1 C.2.2.1 w e0 (g := mkF m pc ls (.int n :: st)) rfl (C.d hd) rfl hn (Nat.le_of_eq hcap) hb hc hl
  obtain ⟨s₂, o, q, r⟩ := k _ h' rfl E (OA.new A hcap) T' _ ⟨X', N0, e', hc, hl⟩
  exact ⟨s₂, o, kk _ q, r⟩
theorem OW.lastore (C : OC p s m meth c Z own nm bytes ml ret) {a : Addr} {j : Int32} {x : Int64} {vs : List Value} (F : OA Z h a .long vs) (q : 0 ≤ j.toInt ∧ j.toInt < vs.length) (hna : n0 ≤ a) (hd : decode bytes pc = .ok (.lastore, 1)) (hp : pc + 1 = pc')
    (k : ∀ h', Wr h h' a j.toNatClampNeg (.long x) → OW p l e R s m args below meth c n0 Q K N h' cl sl (mkF m pc' ls st)) : OW p l e R s m args below meth c n0 Q K N h cl sl (mkF m pc ls (.long x :: .int j :: .ref a :: st)) := fun T locs ⟨X, N0, e0, bc, bs⟩ => by
  subst hp
  obtain ⟨cc, A, r⟩ := F
  obtain ⟨T', h', X', e', W, kk⟩ := stJ X C.1 C.2.2.1 e0 A (OA.inb r q) (g := mkF m pc ls (.long x :: .int j :: .ref a :: st)) rfl rfl (C.d hd)
  obtain ⟨s₂, o, q, r⟩ := k h' W T' _ ⟨X', Fr.snoc X' N0 hna, e', bc, bs⟩
  exact ⟨s₂, o, kk _ q, r⟩
theorem OW.iastore (C : OC p s m meth c Z own nm bytes ml ret) {a : Addr} {j x : Int32} {vs : List Value} (F : OA Z h a .int vs) (q : 0 ≤ j.toInt ∧ j.toInt < vs.length) (hna : n0 ≤ a) (hd : decode bytes pc = .ok (.iastore, 1)) (hp : pc + 1 = pc')
    (k : ∀ h', Wr h h' a j.toNatClampNeg (.int x) → OW p l e R s m args below meth c n0 Q K N h' cl sl (mkF m pc' ls st)) : OW p l e R s m args below meth c n0 Q K N h cl sl (mkF m pc ls (.int x :: .int j :: .ref a :: st)) := fun T locs ⟨X, N0, e0, bc, bs⟩ => by
  subst hp
  obtain ⟨cc, A, r⟩ := F
  obtain ⟨T', h', X', e', W, kk⟩ := stI X C.1 C.2.2.1 e0 A (OA.inb r q) (g := mkF m pc ls (.int x :: .int j :: .ref a :: st)) rfl rfl (C.d hd)
  obtain ⟨s₂, o, q, r⟩ := k h' W T' _ ⟨X', Fr.snoc X' N0 hna, e', bc, bs⟩
  exact ⟨s₂, o, kk _ q, r⟩
theorem OW.bastore (C : OC p s m meth c Z own nm bytes ml ret) {a : Addr} {j x : Int32} {vs : List Value} (F : OA Z h a .byte vs) (q : 0 ≤ j.toInt ∧ j.toInt < vs.length) (hna : n0 ≤ a) (hd : decode bytes pc = .ok (.bastore, 1)) (hp : pc + 1 = pc')
    (k : ∀ h', Wr h h' a j.toNatClampNeg (.int (nar .byte x)) → OW p l e R s m args below meth c n0 Q K N h' cl sl (mkF m pc' ls st)) : OW p l e R s m args below meth c n0 Q K N h cl sl (mkF m pc ls (.int x :: .int j :: .ref a :: st)) := fun T locs ⟨X, N0, e0, bc, bs⟩ => by
  subst hp
  obtain ⟨cc, A, r⟩ := F
  obtain ⟨T', h', X', e', W, kk⟩ := stB X C.1 C.2.2.1 e0 A (OA.inb r q) (g := mkF m pc ls (.int x :: .int j :: .ref a :: st)) rfl rfl (C.d hd)
  obtain ⟨s₂, o, q, r⟩ := k h' W T' _ ⟨X', Fr.snoc X' N0 hna, e', bc, bs⟩
  exact ⟨s₂, o, kk _ q, r⟩
theorem OW.castore (C : OC p s m meth c Z own nm bytes ml ret) {a : Addr} {j x : Int32} {vs : List Value} (F : OA Z h a .char vs) (q : 0 ≤ j.toInt ∧ j.toInt < vs.length) (hna : n0 ≤ a) (hd : decode bytes pc = .ok (.castore, 1)) (hp : pc + 1 = pc')
    (k : ∀ h', Wr h h' a j.toNatClampNeg (.int (nar .char x)) → OW p l e R s m args below meth c n0 Q K N h' cl sl (mkF m pc' ls st)) : OW p l e R s m args below meth c n0 Q K N h cl sl (mkF m pc ls (.int x :: .int j :: .ref a :: st)) := fun T locs ⟨X, N0, e0, bc, bs⟩ => by
  subst hp
  obtain ⟨cc, A, r⟩ := F
  obtain ⟨T', h', X', e', W, kk⟩ := stC X C.1 C.2.2.1 e0 A (OA.inb r q) (g := mkF m pc ls (.int x :: .int j :: .ref a :: st)) rfl rfl (C.d hd)
  obtain ⟨s₂, o, q, r⟩ := k h' W T' _ ⟨X', Fr.snoc X' N0 hna, e', bc, bs⟩
  exact ⟨s₂, o, kk _ q, r⟩
theorem OG.initO (C : OC p s m meth c Z own nm bytes ml ret) {i W : Nat} {a : Addr} (w1 : (Cond.methodLink own i Lib.objectInit).before a0 Z = true) (w2 : (Cond.instanceMethod Lib.objectInit).before a0 Z = true) (w3 : (Cond.code Lib.objectInit ⟨#[0xb1]⟩ 1 none).before a0 Z = true) (hd : decode bytes pc = .ok (.invokespecial i, 3)) (hsz : ls.size = ml) (hf : 1 ≤ R.frames) (hW : (st.map fun v => v.category).sum = W) (hl : W + 12 ≤ R.locals) (hp : pc + 3 = pc') :
    OG p l e R s m args below meth c n0 h (mkF m pc ls (.ref a :: st)) (mkF m pc' ls st) := by
  subst hp
  rintro T locs cl sl ⟨X, N0, e0, bc, bs⟩
  obtain ⟨T', X', e', k⟩ := RoadKit.initO X C.1 C.2.2.1 C.2.2.2.1 w1 w2 w3 e0 (g := mkF m pc ls (.ref a :: st)) rfl (by rw [C.2.2.2.2.1]; exact hsz) rfl (C.d hd) hf (W := W) (by show 2 * 0 + _ ≤ _; omega) hl
  exact ⟨T', locs, ⟨X', N0, e', bc, bs⟩, k⟩
/-! contracts and calls -/
def OM (l : Launch) (Z : State) (y : MethodName) (bytes : ByteArray) (ml : Nat) (ret : Option FieldType) (rm : Room) (n0 : Nat) (h : Heap) (as' : Array Value) (Q : Option Value → Heap → Prop) (K N : Nat) : Prop :=
  ∀ ws : List Cond, MetFree l y (head1 (Cond.code y bytes ml ret :: ws) rm) (fun a U => a = as' ∧ Z.Warmed39 U.vm ∧ U.heap = h) (fun _ _ _ _ _ => True) (fun _ U o U' => ∃ v L, o = .returned v ∧ (Q v U'.heap ∧ Fr n0 L) ∧ FrameEnd U o U' L K N)
theorem OM.of_body {y : MethodName} {rm : Room} {as' : Array Value} (hy : plainFor y = true) (hef : ∀ m, entryFrame m as' ml = mkF m 0 ls [])
    (body : ∀ (p : Program) (e : Env) (s : State) (m : MethodId) (below : List Frame) (meth : Method) (c : Code), OC p s m meth c Z y.cls y.name bytes ml ret → OW p l e rm s m as' below meth c n0 Q K N h 0 0 (mkF m 0 ls [])) : OM l Z y bytes ml ret rm n0 h as' Q K N := by
  intro ws
  refine MetFree.of_bodySF hy hisR ?_
  intro p e s m args below meth c s₁ Bd hml0 hP hK
  obtain ⟨rfl, hZ, hh⟩ := hP
  have e0 : s₁.heap = h := by rw [← hh, Bd.state]; rfl
  have X0 : Stand p l e rm s m args below meth c s₁ [] 0 0 := Stand.of_body Bd
  rw [hef m]
  exact body p e s m below meth c ⟨Bd.exec, Bd.bytes, hZ, findClass_of_methodNamed Bd.named, hml0, Bd.returns, Bd.notSynchronized, (name_of_methodNamed Bd.named Bd.method).1⟩ s₁ [] ⟨X0, Fr.nil n0, e0, Nat.zero_le _, Nat.zero_le _⟩
theorem OW.callS (C : OC p s m meth c Z own nm bytes ml ret) {i : Nat} {y : MethodName} {bytes' : ByteArray} {ml' W : Nat} {ret' r0 : Option FieldType} {rm : Room} {argsL rest : List Value} {ps : List FieldType} {Q' : Option Value → Heap → Prop}
    (w1 : (Cond.methodLink own i y).before a0 Z = true) (w2 : (Cond.static y).before a0 Z = true) (w3 : (Cond.initialized y.cls).before a0 Z = true) (w4 : (Cond.code y bytes' ml' ret').before a0 Z = true) (hy : y.cls ≠ "java/lang/invoke/MethodHandle" ∧ y.cls ≠ "java/lang/invoke/VarHandle")
    (hM : OM l Z y bytes' ml' ret' rm n0 h argsL.toArray Q' rm.cells rm.slots) (hd : decode bytes pc = .ok (.invokestatic i, 3)) (hpd : parseMethodDescriptor y.desc = some ⟨ps, r0⟩) (hlen : argsL.length = ps.length) (hst : st = argsL.reverse ++ rest) (hsz : ls.size = ml) (hW : (rest.map fun v => v.category).sum = W)
    (hf : rm.frames + 1 ≤ R.frames) (hlo : W + (ml' + 11) + rm.locals ≤ R.locals) (hcl : cl + rm.cells ≤ R.cells) (hsl : sl + rm.slots ≤ R.slots) (hp : pc + 3 = pc')
    (k : ∀ v h', Q' v h' → OW p l e R s m args below meth c n0 Q K N h' (cl + rm.cells) (sl + rm.slots) (mkF m pc' ls (v.toList ++ rest))) : OW p l e R s m args below meth c n0 Q K N h cl sl (mkF m pc ls st) := fun T locs ⟨X, N0, e0, bc, bs⟩ => by
  subst hp
  obtain ⟨v, vm, ⟨T', L', cl', sl'⟩, -, X', ⟨Lc, ⟨hQ, hL⟩, e1, e2, e3⟩, kk⟩ := Jvm.LawKit.callS X C.1 C.2.2.2.1 (mv C.2.2.1 w1) (mv C.2.2.1 w2) (mv C.2.2.1 w3) (mv C.2.2.1 w4) hy (backOf (W := W) (Q := fun v h L => Q' v h ∧ Fr n0 L) (hM []) C.2.2.1 w4 w3 hf hlo) (g := mkF m pc ls st) rfl (by rw [C.2.2.2.2.1]; exact hsz) (argsL := argsL) (rest := rest) (lenOf hpd hlen) hst (by show 2 * 0 + _ ≤ _; omega) (C.d hd) (fun _ _ => ⟨rfl, e0, hcl, hsl⟩)
  dsimp only [Pt.U, Pt.locs, Pt.cells, Pt.slots] at X' e1 e2 e3 kk hQ
  subst e1 e2 e3
  obtain ⟨s₂, o, q, r⟩ := k v _ hQ T' _ ⟨X', Fr.app N0 hL, rfl, hcl, hsl⟩
  exact ⟨s₂, o, kk _ q, r⟩
theorem OG.callS (C : OC p s m meth c Z own nm bytes ml ret) {i : Nat} {y : MethodName} {bytes' : ByteArray} {ml' W fr lo : Nat} {ret' r0 : Option FieldType} {argsL rest : List Value} {ps : List FieldType} {w : Value}
    (w1 : (Cond.methodLink own i y).before a0 Z = true) (w2 : (Cond.static y).before a0 Z = true) (w3 : (Cond.initialized y.cls).before a0 Z = true) (w4 : (Cond.code y bytes' ml' ret').before a0 Z = true) (hy : y.cls ≠ "java/lang/invoke/MethodHandle" ∧ y.cls ≠ "java/lang/invoke/VarHandle")
    (hM : OM l Z y bytes' ml' ret' ⟨fr, 0, 0, lo⟩ n0 h argsL.toArray (fun v h' => v = some w ∧ h' = h) 0 0) (hd : decode bytes pc = .ok (.invokestatic i, 3)) (hpd : parseMethodDescriptor y.desc = some ⟨ps, r0⟩) (hlen : argsL.length = ps.length) (hst : st = argsL.reverse ++ rest) (hsz : ls.size = ml) (hW : (rest.map fun v => v.category).sum = W)
    (hf : fr + 1 ≤ R.frames) (hlo : W + (ml' + 11) + lo ≤ R.locals) (hp : pc + 3 = pc') :
    OG p l e R s m args below meth c n0 h (mkF m pc ls st) (mkF m pc' ls (w :: rest)) := fun T locs cl sl ⟨X, N0, e0, bc, bs⟩ => by
  subst hp
  obtain ⟨v, vm, ⟨T', L', cl', sl'⟩, -, X', ⟨Lc, ⟨⟨rfl, hQ⟩, hL⟩, e1, e2, e3⟩, kk⟩ := Jvm.LawKit.callS X C.1 C.2.2.2.1 (mv C.2.2.1 w1) (mv C.2.2.1 w2) (mv C.2.2.1 w3) (mv C.2.2.1 w4) hy (backOf (W := W) (Q := fun v h' L => (v = some w ∧ h' = h) ∧ Fr n0 L) (hM []) C.2.2.1 w4 w3 hf hlo) (g := mkF m pc ls st) rfl (by rw [C.2.2.2.2.1]; exact hsz) (argsL := argsL) (rest := rest) (lenOf hpd hlen) hst (by show 2 * 0 + _ ≤ _; omega) (C.d hd) (fun _ _ => ⟨rfl, e0, bc, bs⟩)
  dsimp only [Pt.U, Pt.locs, Pt.cells, Pt.slots] at X' e1 e2 e3 kk hQ
  subst e1 e2 e3
  exact ⟨T', _, ⟨X', Fr.app N0 hL, hQ, bc, bs⟩, kk⟩
theorem OW.init (C : OC p s m meth c Z own nm bytes ml ret) {i : Nat} {y : MethodName} {bytes' : ByteArray} {ml' W : Nat} {r0 : Option FieldType} {rm : Room} {argsL rest : List Value} {ps : List FieldType} {Q' : Option Value → Heap → Prop} {a : Addr}
    (w1 : (Cond.methodLink own i y).before a0 Z = true) (w2 : (Cond.instanceMethod y).before a0 Z = true) (w3 : (Cond.initialized y.cls).before a0 Z = true) (w4 : (Cond.code y bytes' ml' none).before a0 Z = true) (hyi : y.name = "<init>") (hy : y.cls ≠ "java/lang/invoke/MethodHandle" ∧ y.cls ≠ "java/lang/invoke/VarHandle")
    (hM : OM l Z y bytes' ml' none rm n0 h (.ref a :: argsL).toArray Q' rm.cells rm.slots) (hd : decode bytes pc = .ok (.invokespecial i, 3)) (hpd : parseMethodDescriptor y.desc = some ⟨ps, r0⟩) (hlen : argsL.length = ps.length) (hst : st = argsL.reverse ++ .ref a :: rest) (hsz : ls.size = ml) (hW : (rest.map fun v => v.category).sum = W)
    (hf : rm.frames + 1 ≤ R.frames) (hlo : W + (ml' + 11) + rm.locals ≤ R.locals) (hcl : cl + rm.cells ≤ R.cells) (hsl : sl + rm.slots ≤ R.slots) (hp : pc + 3 = pc')
    (k : ∀ v h', Q' v h' → OW p l e R s m args below meth c n0 Q K N h' (cl + rm.cells) (sl + rm.slots) (mkF m pc' ls (v.toList ++ rest))) : OW p l e R s m args below meth c n0 Q K N h cl sl (mkF m pc ls st) := fun T locs ⟨X, N0, e0, bc, bs⟩ => by
  subst hp
  obtain ⟨v, vm, ⟨T', L', cl', sl'⟩, -, X', ⟨Lc, ⟨hQ, hL⟩, e1, e2, e3⟩, kk⟩ := X.specialBack C.1 hyi C.2.2.2.1 (mv C.2.2.1 w1) (mv C.2.2.1 w2) (mv C.2.2.1 w4) hy (backOf (W := W) (Q := fun v h L => Q' v h ∧ Fr n0 L) (hM []) C.2.2.1 w4 w3 hf hlo) (g := mkF m pc ls st) rfl (by rw [C.2.2.2.2.1]; exact hsz) (Steps.refl _) (a := a) (argsL := argsL) (rest := rest) (lenOf hpd hlen) hst (by show 2 * 0 + _ ≤ _; omega) (C.d hd) (fun _ _ => ⟨rfl, e0, hcl, hsl⟩)
  dsimp only [Pt.U, Pt.locs, Pt.cells, Pt.slots] at X' e1 e2 e3 kk hQ
  subst e1 e2 e3
  obtain ⟨s₂, o, q, r⟩ := k v _ hQ T' _ ⟨X', Fr.app N0 hL, rfl, hcl, hsl⟩
  exact ⟨s₂, o, kk.trans q, r⟩
theorem OG.init (C : OC p s m meth c Z own nm bytes ml ret) {i : Nat} {y : MethodName} {bytes' : ByteArray} {ml' W fr lo : Nat} {r0 : Option FieldType} {argsL rest : List Value} {ps : List FieldType} {a : Addr}
    (w1 : (Cond.methodLink own i y).before a0 Z = true) (w2 : (Cond.instanceMethod y).before a0 Z = true) (w3 : (Cond.initialized y.cls).before a0 Z = true) (w4 : (Cond.code y bytes' ml' none).before a0 Z = true) (hyi : y.name = "<init>") (hy : y.cls ≠ "java/lang/invoke/MethodHandle" ∧ y.cls ≠ "java/lang/invoke/VarHandle")
    (hM : OM l Z y bytes' ml' none ⟨fr, 0, 0, lo⟩ n0 h (.ref a :: argsL).toArray (fun v h' => v = none ∧ h' = h) 0 0) (hd : decode bytes pc = .ok (.invokespecial i, 3)) (hpd : parseMethodDescriptor y.desc = some ⟨ps, r0⟩) (hlen : argsL.length = ps.length) (hst : st = argsL.reverse ++ .ref a :: rest) (hsz : ls.size = ml) (hW : (rest.map fun v => v.category).sum = W)
    (hf : fr + 1 ≤ R.frames) (hlo : W + (ml' + 11) + lo ≤ R.locals) (hp : pc + 3 = pc') :
    OG p l e R s m args below meth c n0 h (mkF m pc ls st) (mkF m pc' ls rest) := fun T locs cl sl ⟨X, N0, e0, bc, bs⟩ => by
  subst hp
  obtain ⟨v, vm, ⟨T', L', cl', sl'⟩, -, X', ⟨Lc, ⟨⟨rfl, hQ⟩, hL⟩, e1, e2, e3⟩, kk⟩ := X.specialBack C.1 hyi C.2.2.2.1 (mv C.2.2.1 w1) (mv C.2.2.1 w2) (mv C.2.2.1 w4) hy (backOf (W := W) (Q := fun v h' L => (v = none ∧ h' = h) ∧ Fr n0 L) (hM []) C.2.2.1 w4 w3 hf hlo) (g := mkF m pc ls st) rfl (by rw [C.2.2.2.2.1]; exact hsz) (Steps.refl _) (a := a) (argsL := argsL) (rest := rest) (lenOf hpd hlen) hst (by show 2 * 0 + _ ≤ _; omega) (C.d hd) (fun _ _ => ⟨rfl, e0, bc, bs⟩)
  dsimp only [Pt.U, Pt.locs, Pt.cells, Pt.slots] at X' e1 e2 e3 kk hQ
  subst e1 e2 e3
  exact ⟨T', _, ⟨X', Fr.app N0 hL, hQ, bc, bs⟩, fun t q => kk.trans q⟩
theorem OW.callV (C : OC p s m meth c Z own nm bytes ml ret) {i : Nat} {y : MethodName} {bytes' : ByteArray} {ml' W : Nat} {ret' r0 : Option FieldType} {rm : Room} {argsL rest : List Value} {ps : List FieldType} {Q' : Option Value → Heap → Prop} {a : Addr} {Cl : String}
    (w1 : (Cond.methodLink own i y).before a0 Z = true) (wd : (Cond.declares y).before a0 Z = true) (ws : (Cond.selects Cl y y).before a0 Z = true) (w2 : (Cond.instanceMethod y).before a0 Z = true) (w3 : (Cond.initialized y.cls).before a0 Z = true) (w4 : (Cond.code y bytes' ml' ret').before a0 Z = true) (hy : y.cls ≠ "java/lang/invoke/MethodHandle" ∧ y.cls ≠ "java/lang/invoke/VarHandle") (E : Exa Z h a Cl)
    (hM : OM l Z y bytes' ml' ret' rm n0 h (.ref a :: argsL).toArray Q' rm.cells rm.slots) (hd : decode bytes pc = .ok (.invokevirtual i, 3)) (hpd : parseMethodDescriptor y.desc = some ⟨ps, r0⟩) (hlen : argsL.length = ps.length) (hst : st = argsL.reverse ++ .ref a :: rest) (hsz : ls.size = ml) (hW : (rest.map fun v => v.category).sum = W)
    (hf : rm.frames + 1 ≤ R.frames) (hlo : W + (ml' + 11) + rm.locals ≤ R.locals) (hcl : cl + rm.cells ≤ R.cells) (hsl : sl + rm.slots ≤ R.slots) (hp : pc + 3 = pc')
    (k : ∀ v h', Q' v h' → OW p l e R s m args below meth c n0 Q K N h' (cl + rm.cells) (sl + rm.slots) (mkF m pc' ls (v.toList ++ rest))) : OW p l e R s m args below meth c n0 Q K N h cl sl (mkF m pc ls st) := fun T locs ⟨X, N0, e0, bc, bs⟩ => by
  subst hp
  obtain ⟨cq, kq, qa, qb, qc⟩ := isOf C.2.2.1 e0 E
  obtain ⟨v, vm, ⟨T', L', cl', sl'⟩, -, X', ⟨Lc, ⟨hQ, hL⟩, e1, e2, e3⟩, kk⟩ := X.virtualBack C.1 C.2.2.2.1 (mv C.2.2.1 w1) (mv C.2.2.1 wd) (notFace_of_selects (args := #[]) (mv C.2.2.1 ws)) (mv C.2.2.1 ws) (mv C.2.2.1 w2) hy (backOf (W := W) (Q := fun v h L => Q' v h ∧ Fr n0 L) (hM []) C.2.2.1 w4 w3 hf hlo) qa qc (g := mkF m pc ls st) rfl (by rw [C.2.2.2.2.1]; exact hsz) (Steps.refl _) (argsL := argsL) (rest := rest) (lenOf hpd hlen) hst (by show 2 * 0 + _ ≤ _; omega) (C.d hd) (fun _ _ => ⟨rfl, e0, hcl, hsl⟩)
  dsimp only [Pt.U, Pt.locs, Pt.cells, Pt.slots] at X' e1 e2 e3 kk hQ
  subst e1 e2 e3
  obtain ⟨s₂, o, q, r⟩ := k v _ hQ T' _ ⟨X', Fr.app N0 hL, rfl, hcl, hsl⟩
  exact ⟨s₂, o, kk.trans q, r⟩
theorem OG.callV (C : OC p s m meth c Z own nm bytes ml ret) {i : Nat} {y : MethodName} {bytes' : ByteArray} {ml' W fr lo : Nat} {ret' r0 : Option FieldType} {argsL rest : List Value} {ps : List FieldType} {w : Value} {a : Addr} {Cl : String}
    (w1 : (Cond.methodLink own i y).before a0 Z = true) (wd : (Cond.declares y).before a0 Z = true) (ws : (Cond.selects Cl y y).before a0 Z = true) (w2 : (Cond.instanceMethod y).before a0 Z = true) (w3 : (Cond.initialized y.cls).before a0 Z = true) (w4 : (Cond.code y bytes' ml' ret').before a0 Z = true) (hy : y.cls ≠ "java/lang/invoke/MethodHandle" ∧ y.cls ≠ "java/lang/invoke/VarHandle") (E : Exa Z h a Cl)
    (hM : OM l Z y bytes' ml' ret' ⟨fr, 0, 0, lo⟩ n0 h (.ref a :: argsL).toArray (fun v h' => v = some w ∧ h' = h) 0 0) (hd : decode bytes pc = .ok (.invokevirtual i, 3)) (hpd : parseMethodDescriptor y.desc = some ⟨ps, r0⟩) (hlen : argsL.length = ps.length) (hst : st = argsL.reverse ++ .ref a :: rest) (hsz : ls.size = ml) (hW : (rest.map fun v => v.category).sum = W)
    (hf : fr + 1 ≤ R.frames) (hlo : W + (ml' + 11) + lo ≤ R.locals) (hp : pc + 3 = pc') :
    OG p l e R s m args below meth c n0 h (mkF m pc ls st) (mkF m pc' ls (w :: rest)) := fun T locs cl sl ⟨X, N0, e0, bc, bs⟩ => by
  subst hp
  obtain ⟨cq, kq, qa, qb, qc⟩ := isOf C.2.2.1 e0 E
  obtain ⟨v, vm, ⟨T', L', cl', sl'⟩, -, X', ⟨Lc, ⟨⟨rfl, hQ⟩, hL⟩, e1, e2, e3⟩, kk⟩ := X.virtualBack C.1 C.2.2.2.1 (mv C.2.2.1 w1) (mv C.2.2.1 wd) (notFace_of_selects (args := #[]) (mv C.2.2.1 ws)) (mv C.2.2.1 ws) (mv C.2.2.1 w2) hy (backOf (W := W) (Q := fun v h' L => (v = some w ∧ h' = h) ∧ Fr n0 L) (hM []) C.2.2.1 w4 w3 hf hlo) qa qc (g := mkF m pc ls st) rfl (by rw [C.2.2.2.2.1]; exact hsz) (Steps.refl _) (argsL := argsL) (rest := rest) (lenOf hpd hlen) hst (by show 2 * 0 + _ ≤ _; omega) (C.d hd) (fun _ _ => ⟨rfl, e0, bc, bs⟩)
  dsimp only [Pt.U, Pt.locs, Pt.cells, Pt.slots] at X' e1 e2 e3 kk hQ
  subst e1 e2 e3
  exact ⟨T', _, ⟨X', Fr.app N0 hL, hQ, bc, bs⟩, fun t q => kk.trans q⟩
theorem Exa.pl {h : Heap} {a : Addr} {C : String} (F : Exa Z h a C) : ∃ c : Cell, h[a]? = some c ∧ c.vm.isStatics = false := by obtain ⟨c, _, h1, -, -, h4, -⟩ := F; exact ⟨c, h1, h4⟩
theorem OA.pl {a : Addr} {ty : FieldType} {vs : List Value} (F : OA Z h a ty vs) : ∃ c : Cell, h[a]? = some c ∧ c.vm.isStatics = false := by obtain ⟨c, A, -⟩ := F; exact ⟨c, A.1, A.plain⟩
theorem Sta.kp {h h' : Heap} {C n d : String} {v : Value} {ws : List Addr} (F : Sta Z h C n d v) (K : Keep h h' ws) (q : ∀ a ∈ ws, ∃ c : Cell, h[a]? = some c ∧ c.vm.isStatics = false) : Sta Z h' C n d v := by
  obtain ⟨cf, i, k, f, st, cell, h1, h2, h3, h4, h5, h6, h7⟩ := F
  refine ⟨cf, i, k, f, st, cell, h1, h2, h3, h4, K.2.1 st cell h5 (fun hm => ?_), h6, h7⟩
  obtain ⟨c, e1, e2⟩ := q st hm
  cases h5.symm.trans e1
  rw [h6] at e2; cases e2
theorem OW.join {P : Value → Heap → Prop} {f : Value → JFrame} {cl' sl' : Nat} (b : (∀ v h', P v h' → OW p l e R s m args below meth c n0 Q K N h' cl' sl' (f v)) → OW p l e R s m args below meth c n0 Q K N h cl sl g) (k : ∀ v h', P v h' → OW p l e R s m args below meth c n0 Q K N h' cl' sl' (f v)) : OW p l e R s m args below meth c n0 Q K N h cl sl g := b k
theorem own_nr {v : Value} {t : FieldType} (q : v.isRef = true) (ht : t.isReference = true) : narrow t v = v ∧ fits t v = true := by
  rcases ref_cases q with rfl | ⟨_, rfl⟩ <;> cases t <;> first | (cases ht; done) | exact ⟨rfl, rfl⟩
/-! what a branch over two longs asks -/
theorem tltL {x y : Int64} (q : x < y) : ifCond.holds .lt (lcmpW x y) = true ∧ ifCond.holds .ge (lcmpW x y) = false ∧ ifCond.holds .gt (lcmpW y x) = true ∧ ifCond.holds .le (lcmpW y x) = false := by
  have a := (lw_lt x y).mpr q
  have b := (lw_gt y x).mpr q
  rw [if0, if0, if0, if0]; exact ⟨(tlt a).1, (tlt a).2.1, (tlt b).2.2.1, (tlt b).2.2.2⟩
theorem fltL {x y : Int64} (q : ¬ x < y) : ifCond.holds .lt (lcmpW x y) = false ∧ ifCond.holds .ge (lcmpW x y) = true ∧ ifCond.holds .gt (lcmpW y x) = false ∧ ifCond.holds .le (lcmpW y x) = true := by
  have a := fun z => q ((lw_lt x y).mp z)
  have b := fun z => q ((lw_gt y x).mp z)
  rw [if0, if0, if0, if0]; exact ⟨(flt a).1, (flt a).2.1, (flt b).2.2.1, (flt b).2.2.2⟩
theorem teqL {x y : Int64} (q : x = y) : ifCond.holds .eq (lcmpW x y) = true ∧ ifCond.holds .ne (lcmpW x y) = false := by
  have a := (lw_eq x y).mpr q
  rw [if0, if0]; exact teq a
theorem feqL {x y : Int64} (q : ¬ x = y) : ifCond.holds .eq (lcmpW x y) = false ∧ ifCond.holds .ne (lcmpW x y) = true := by
  have a := fun z => q ((lw_eq x y).mp z)
  rw [if0, if0]; exact feq a
theorem tlt0 {x y : Int32} (q : x < y) : if_icmp.holds .lt x y = true ∧ if_icmp.holds .ge x y = false ∧ if_icmp.holds .gt y x = true ∧ if_icmp.holds .le y x = false := tlt q
end Own
end Jvm.RoadKit
namespace Jvm.Pilot.@@N@@
open Jvm Jvm.ClassFile Sem Op Lib Jvm.Free Jvm.Stand Jvm.LawKit Jvm.RoadKit Bundle Jvm.Pilot.@@N@@.Jvm.D
abbrev HW (a0 : Array Value) (Z : State) : Prop := ∀ d ∈ tables_1, d.before a0 Z = true
theorem w0 {a0 : Array Value} {Z : State} (hw : HW a0 Z) : (Jvm.Cond.constant "com/example/quittance/quittance/AuditEntryWithAmountPinLaw" (7 : Nat) (2147483647 : Int32)).before a0 Z = true := hw _ (List.mem_of_getElem? (i := 0) rfl)
theorem w1 {a0 : Array Value} {Z : State} (hw : HW a0 Z) : (Jvm.Cond.methodLink "com/example/quittance/quittance/AuditEntryWithAmountPinLaw" (8 : Nat) ({ cls := "com/example/quittance/quittance/AuditEntryWithAmountPinLaw", name := "action", desc := "(I)Lcom/example/quittance/quittance/AuditEntry$Action;" } : Jvm.MethodName)).before a0 Z = true := hw _ (List.mem_of_getElem? (i := 1) rfl)
theorem w2 {a0 : Array Value} {Z : State} (hw : HW a0 Z) : (Jvm.Cond.static ({ cls := "com/example/quittance/quittance/AuditEntryWithAmountPinLaw", name := "action", desc := "(I)Lcom/example/quittance/quittance/AuditEntry$Action;" } : Jvm.MethodName)).before a0 Z = true := hw _ (List.mem_of_getElem? (i := 2) rfl)
theorem w3 {a0 : Array Value} {Z : State} (hw : HW a0 Z) : (Jvm.Cond.initialized "com/example/quittance/quittance/AuditEntryWithAmountPinLaw").before a0 Z = true := hw _ (List.mem_of_getElem? (i := 3) rfl)
theorem w4 {a0 : Array Value} {Z : State} (hw : HW a0 Z) : (Jvm.Cond.code ({ cls := "com/example/quittance/quittance/AuditEntryWithAmountPinLaw", name := "action", desc := "(I)Lcom/example/quittance/quittance/AuditEntry$Action;" } : Jvm.MethodName) method_3_code (1 : Nat) (Option.some (Jvm.ClassFile.FieldType.object "com/example/quittance/quittance/AuditEntry$Action"))).before a0 Z = true := hw _ (List.mem_of_getElem? (i := 4) rfl)
theorem w5 {a0 : Array Value} {Z : State} (hw : HW a0 Z) : (Jvm.Cond.fieldLink "com/example/quittance/quittance/AuditEntryWithAmountPinLaw" (51 : Nat) "com/example/quittance/quittance/AuditEntry$Action" "REASON_CODE_SET" "Lcom/example/quittance/quittance/AuditEntry$Action;").before a0 Z = true := hw _ (List.mem_of_getElem? (i := 5) rfl)
theorem w6 {a0 : Array Value} {Z : State} (hw : HW a0 Z) : (Jvm.Cond.initialized "com/example/quittance/quittance/AuditEntry$Action").before a0 Z = true := hw _ (List.mem_of_getElem? (i := 6) rfl)
theorem w7 {a0 : Array Value} {Z : State} (hw : HW a0 Z) : (Jvm.Cond.laysStatic "com/example/quittance/quittance/AuditEntry$Action" "REASON_CODE_SET" "Lcom/example/quittance/quittance/AuditEntry$Action;").before a0 Z = true := hw _ (List.mem_of_getElem? (i := 7) rfl)
theorem w8 {a0 : Array Value} {Z : State} (hw : HW a0 Z) : (Jvm.Cond.methodLink "com/example/quittance/quittance/AuditEntryWithAmountPinLaw" (14 : Nat) ({ cls := "java/lang/String", name := "valueOf", desc := "(C)Ljava/lang/String;" } : Jvm.MethodName)).before a0 Z = true := hw _ (List.mem_of_getElem? (i := 8) rfl)
theorem w9 {a0 : Array Value} {Z : State} (hw : HW a0 Z) : (Jvm.Cond.static ({ cls := "java/lang/String", name := "valueOf", desc := "(C)Ljava/lang/String;" } : Jvm.MethodName)).before a0 Z = true := hw _ (List.mem_of_getElem? (i := 9) rfl)
theorem w10 {a0 : Array Value} {Z : State} (hw : HW a0 Z) : (Jvm.Cond.initialized "java/lang/String").before a0 Z = true := hw _ (List.mem_of_getElem? (i := 10) rfl)
theorem w11 {a0 : Array Value} {Z : State} (hw : HW a0 Z) : (Jvm.Cond.code ({ cls := "java/lang/String", name := "valueOf", desc := "(C)Ljava/lang/String;" } : Jvm.MethodName) jdk_42_method_139_code (1 : Nat) (Option.some (Jvm.ClassFile.FieldType.object "java/lang/String"))).before a0 Z = true := hw _ (List.mem_of_getElem? (i := 11) rfl)
theorem w12 {a0 : Array Value} {Z : State} (hw : HW a0 Z) : (Jvm.Cond.fieldLink "java/lang/String" (38 : Nat) "java/lang/String" "COMPACT_STRINGS" "Z").before a0 Z = true := hw _ (List.mem_of_getElem? (i := 12) rfl)
theorem w13 {a0 : Array Value} {Z : State} (hw : HW a0 Z) : (Jvm.Cond.methodLink "java/lang/String" (1015 : Nat) ({ cls := "java/lang/StringLatin1", name := "canEncode", desc := "(C)Z" } : Jvm.MethodName)).before a0 Z = true := hw _ (List.mem_of_getElem? (i := 13) rfl)
theorem w14 {a0 : Array Value} {Z : State} (hw : HW a0 Z) : (Jvm.Cond.static ({ cls := "java/lang/StringLatin1", name := "canEncode", desc := "(C)Z" } : Jvm.MethodName)).before a0 Z = true := hw _ (List.mem_of_getElem? (i := 14) rfl)
theorem w15 {a0 : Array Value} {Z : State} (hw : HW a0 Z) : (Jvm.Cond.initialized "java/lang/StringLatin1").before a0 Z = true := hw _ (List.mem_of_getElem? (i := 15) rfl)
theorem w16 {a0 : Array Value} {Z : State} (hw : HW a0 Z) : (Jvm.Cond.code ({ cls := "java/lang/StringLatin1", name := "canEncode", desc := "(C)Z" } : Jvm.MethodName) jdk_43_method_3_code (1 : Nat) (Option.some Jvm.ClassFile.FieldType.boolean)).before a0 Z = true := hw _ (List.mem_of_getElem? (i := 16) rfl)
theorem w17 {a0 : Array Value} {Z : State} (hw : HW a0 Z) : (Jvm.Cond.classLink "java/lang/String" (10 : Nat) "java/lang/String").before a0 Z = true := hw _ (List.mem_of_getElem? (i := 17) rfl)
theorem w18 {a0 : Array Value} {Z : State} (hw : HW a0 Z) : (Jvm.Cond.instantiable "java/lang/String" (4 : Nat)).before a0 Z = true := hw _ (List.mem_of_getElem? (i := 18) rfl)
theorem w19 {a0 : Array Value} {Z : State} (hw : HW a0 Z) : (Jvm.Cond.methodLink "java/lang/String" (1018 : Nat) ({ cls := "java/lang/StringLatin1", name := "toBytes", desc := "(C)[B" } : Jvm.MethodName)).before a0 Z = true := hw _ (List.mem_of_getElem? (i := 19) rfl)
theorem w20 {a0 : Array Value} {Z : State} (hw : HW a0 Z) : (Jvm.Cond.static ({ cls := "java/lang/StringLatin1", name := "toBytes", desc := "(C)[B" } : Jvm.MethodName)).before a0 Z = true := hw _ (List.mem_of_getElem? (i := 20) rfl)
theorem w21 {a0 : Array Value} {Z : State} (hw : HW a0 Z) : (Jvm.Cond.code ({ cls := "java/lang/StringLatin1", name := "toBytes", desc := "(C)[B" } : Jvm.MethodName) jdk_43_method_46_code (1 : Nat) (Option.some (Jvm.ClassFile.FieldType.array Jvm.ClassFile.FieldType.byte))).before a0 Z = true := hw _ (List.mem_of_getElem? (i := 21) rfl)
theorem w22 {a0 : Array Value} {Z : State} (hw : HW a0 Z) : (Jvm.Cond.arrayClass Jvm.ClassFile.FieldType.byte).before a0 Z = true := hw _ (List.mem_of_getElem? (i := 22) rfl)
theorem w23 {a0 : Array Value} {Z : State} (hw : HW a0 Z) : (Jvm.Cond.methodLink "java/lang/String" (209 : Nat) ({ cls := "java/lang/String", name := "<init>", desc := "([BB)V" } : Jvm.MethodName)).before a0 Z = true := hw _ (List.mem_of_getElem? (i := 23) rfl)
theorem w24 {a0 : Array Value} {Z : State} (hw : HW a0 Z) : (Jvm.Cond.instanceMethod ({ cls := "java/lang/String", name := "<init>", desc := "([BB)V" } : Jvm.MethodName)).before a0 Z = true := hw _ (List.mem_of_getElem? (i := 24) rfl)
theorem w26 {a0 : Array Value} {Z : State} (hw : HW a0 Z) : (Jvm.Cond.code ({ cls := "java/lang/String", name := "<init>", desc := "([BB)V" } : Jvm.MethodName) jdk_42_method_151_code (3 : Nat) (Option.none : Option Jvm.ClassFile.FieldType)).before a0 Z = true := hw _ (List.mem_of_getElem? (i := 26) rfl)
theorem w27 {a0 : Array Value} {Z : State} (hw : HW a0 Z) : (Jvm.Cond.methodLink "java/lang/String" (1 : Nat) ({ cls := "java/lang/Object", name := "<init>", desc := "()V" } : Jvm.MethodName)).before a0 Z = true := hw _ (List.mem_of_getElem? (i := 27) rfl)
theorem w28 {a0 : Array Value} {Z : State} (hw : HW a0 Z) : (Jvm.Cond.instanceMethod ({ cls := "java/lang/Object", name := "<init>", desc := "()V" } : Jvm.MethodName)).before a0 Z = true := hw _ (List.mem_of_getElem? (i := 28) rfl)
theorem w29 {a0 : Array Value} {Z : State} (hw : HW a0 Z) : (Jvm.Cond.code ({ cls := "java/lang/Object", name := "<init>", desc := "()V" } : Jvm.MethodName) object_method_1_code (1 : Nat) (Option.none : Option Jvm.ClassFile.FieldType)).before a0 Z = true := hw _ (List.mem_of_getElem? (i := 29) rfl)
theorem w30 {a0 : Array Value} {Z : State} (hw : HW a0 Z) : (Jvm.Cond.fieldLink "java/lang/String" (9 : Nat) "java/lang/String" "value" "[B").before a0 Z = true := hw _ (List.mem_of_getElem? (i := 30) rfl)
theorem w31 {a0 : Array Value} {Z : State} (hw : HW a0 Z) : (Jvm.Cond.laysFinal "java/lang/String" "java/lang/String" "value" "[B").before a0 Z = true := hw _ (List.mem_of_getElem? (i := 31) rfl)
theorem w32 {a0 : Array Value} {Z : State} (hw : HW a0 Z) : (Jvm.Cond.fieldLink "java/lang/String" (15 : Nat) "java/lang/String" "coder" "B").before a0 Z = true := hw _ (List.mem_of_getElem? (i := 32) rfl)
theorem w33 {a0 : Array Value} {Z : State} (hw : HW a0 Z) : (Jvm.Cond.laysFinal "java/lang/String" "java/lang/String" "coder" "B").before a0 Z = true := hw _ (List.mem_of_getElem? (i := 33) rfl)
theorem w34 {a0 : Array Value} {Z : State} (hw : HW a0 Z) : (Jvm.Cond.classLink "com/example/quittance/quittance/AuditEntryWithAmountPinLaw" (20 : Nat) "com/example/quittance/quittance/Amount").before a0 Z = true := hw _ (List.mem_of_getElem? (i := 34) rfl)
theorem w35 {a0 : Array Value} {Z : State} (hw : HW a0 Z) : (Jvm.Cond.instantiable "com/example/quittance/quittance/Amount" (1 : Nat)).before a0 Z = true := hw _ (List.mem_of_getElem? (i := 35) rfl)
theorem w36 {a0 : Array Value} {Z : State} (hw : HW a0 Z) : (Jvm.Cond.initialized "com/example/quittance/quittance/Amount").before a0 Z = true := hw _ (List.mem_of_getElem? (i := 36) rfl)
theorem w37 {a0 : Array Value} {Z : State} (hw : HW a0 Z) : (Jvm.Cond.methodLink "com/example/quittance/quittance/AuditEntryWithAmountPinLaw" (22 : Nat) ({ cls := "com/example/quittance/quittance/Amount", name := "<init>", desc := "(J)V" } : Jvm.MethodName)).before a0 Z = true := hw _ (List.mem_of_getElem? (i := 37) rfl)
theorem w38 {a0 : Array Value} {Z : State} (hw : HW a0 Z) : (Jvm.Cond.instanceMethod ({ cls := "com/example/quittance/quittance/Amount", name := "<init>", desc := "(J)V" } : Jvm.MethodName)).before a0 Z = true := hw _ (List.mem_of_getElem? (i := 38) rfl)
theorem w39 {a0 : Array Value} {Z : State} (hw : HW a0 Z) : (Jvm.Cond.code ({ cls := "com/example/quittance/quittance/Amount", name := "<init>", desc := "(J)V" } : Jvm.MethodName) prog_2_method_1_code (3 : Nat) (Option.none : Option Jvm.ClassFile.FieldType)).before a0 Z = true := hw _ (List.mem_of_getElem? (i := 39) rfl)
theorem w40 {a0 : Array Value} {Z : State} (hw : HW a0 Z) : (Jvm.Cond.methodLink "com/example/quittance/quittance/Amount" (1 : Nat) ({ cls := "java/lang/Record", name := "<init>", desc := "()V" } : Jvm.MethodName)).before a0 Z = true := hw _ (List.mem_of_getElem? (i := 40) rfl)
theorem w41 {a0 : Array Value} {Z : State} (hw : HW a0 Z) : (Jvm.Cond.instanceMethod ({ cls := "java/lang/Record", name := "<init>", desc := "()V" } : Jvm.MethodName)).before a0 Z = true := hw _ (List.mem_of_getElem? (i := 41) rfl)
theorem w43 {a0 : Array Value} {Z : State} (hw : HW a0 Z) : (Jvm.Cond.initialized "java/lang/Record").before a0 Z = true := hw _ (List.mem_of_getElem? (i := 43) rfl)
theorem w44 {a0 : Array Value} {Z : State} (hw : HW a0 Z) : (Jvm.Cond.code ({ cls := "java/lang/Record", name := "<init>", desc := "()V" } : Jvm.MethodName) jdk_30_method_1_code (1 : Nat) (Option.none : Option Jvm.ClassFile.FieldType)).before a0 Z = true := hw _ (List.mem_of_getElem? (i := 44) rfl)
theorem w45 {a0 : Array Value} {Z : State} (hw : HW a0 Z) : (Jvm.Cond.methodLink "java/lang/Record" (1 : Nat) ({ cls := "java/lang/Object", name := "<init>", desc := "()V" } : Jvm.MethodName)).before a0 Z = true := hw _ (List.mem_of_getElem? (i := 45) rfl)
theorem w46 {a0 : Array Value} {Z : State} (hw : HW a0 Z) : (Jvm.Cond.fieldLink "com/example/quittance/quittance/Amount" (7 : Nat) "com/example/quittance/quittance/Amount" "cents" "J").before a0 Z = true := hw _ (List.mem_of_getElem? (i := 46) rfl)
theorem w47 {a0 : Array Value} {Z : State} (hw : HW a0 Z) : (Jvm.Cond.laysFinal "com/example/quittance/quittance/Amount" "com/example/quittance/quittance/Amount" "cents" "J").before a0 Z = true := hw _ (List.mem_of_getElem? (i := 47) rfl)
theorem w48 {a0 : Array Value} {Z : State} (hw : HW a0 Z) : (Jvm.Cond.classLink "com/example/quittance/quittance/AuditEntryWithAmountPinLaw" (25 : Nat) "com/example/quittance/quittance/AuditEntry").before a0 Z = true := hw _ (List.mem_of_getElem? (i := 48) rfl)
theorem w49 {a0 : Array Value} {Z : State} (hw : HW a0 Z) : (Jvm.Cond.instantiable "com/example/quittance/quittance/AuditEntry" (5 : Nat)).before a0 Z = true := hw _ (List.mem_of_getElem? (i := 49) rfl)
theorem w50 {a0 : Array Value} {Z : State} (hw : HW a0 Z) : (Jvm.Cond.initialized "com/example/quittance/quittance/AuditEntry").before a0 Z = true := hw _ (List.mem_of_getElem? (i := 50) rfl)
theorem w51 {a0 : Array Value} {Z : State} (hw : HW a0 Z) : (Jvm.Cond.methodLink "com/example/quittance/quittance/AuditEntryWithAmountPinLaw" (27 : Nat) ({ cls := "com/example/quittance/quittance/AuditEntry", name := "<init>", desc := "(Lcom/example/quittance/quittance/AuditEntry$Action;Ljava/lang/String;Ljava/lang/String;Lcom/example/quittance/quittance/Amount;Ljava/lang/String;)V" } : Jvm.MethodName)).before a0 Z = true := hw _ (List.mem_of_getElem? (i := 51) rfl)
theorem w52 {a0 : Array Value} {Z : State} (hw : HW a0 Z) : (Jvm.Cond.instanceMethod ({ cls := "com/example/quittance/quittance/AuditEntry", name := "<init>", desc := "(Lcom/example/quittance/quittance/AuditEntry$Action;Ljava/lang/String;Ljava/lang/String;Lcom/example/quittance/quittance/Amount;Ljava/lang/String;)V" } : Jvm.MethodName)).before a0 Z = true := hw _ (List.mem_of_getElem? (i := 52) rfl)
theorem w53 {a0 : Array Value} {Z : State} (hw : HW a0 Z) : (Jvm.Cond.code ({ cls := "com/example/quittance/quittance/AuditEntry", name := "<init>", desc := "(Lcom/example/quittance/quittance/AuditEntry$Action;Ljava/lang/String;Ljava/lang/String;Lcom/example/quittance/quittance/Amount;Ljava/lang/String;)V" } : Jvm.MethodName) prog_3_method_1_code (6 : Nat) (Option.none : Option Jvm.ClassFile.FieldType)).before a0 Z = true := hw _ (List.mem_of_getElem? (i := 53) rfl)
theorem w54 {a0 : Array Value} {Z : State} (hw : HW a0 Z) : (Jvm.Cond.methodLink "com/example/quittance/quittance/AuditEntry" (1 : Nat) ({ cls := "java/lang/Record", name := "<init>", desc := "()V" } : Jvm.MethodName)).before a0 Z = true := hw _ (List.mem_of_getElem? (i := 54) rfl)
theorem w55 {a0 : Array Value} {Z : State} (hw : HW a0 Z) : (Jvm.Cond.fieldLink "com/example/quittance/quittance/AuditEntry" (7 : Nat) "com/example/quittance/quittance/AuditEntry" "action" "Lcom/example/quittance/quittance/AuditEntry$Action;").before a0 Z = true := hw _ (List.mem_of_getElem? (i := 55) rfl)
theorem w56 {a0 : Array Value} {Z : State} (hw : HW a0 Z) : (Jvm.Cond.laysFinal "com/example/quittance/quittance/AuditEntry" "com/example/quittance/quittance/AuditEntry" "action" "Lcom/example/quittance/quittance/AuditEntry$Action;").before a0 Z = true := hw _ (List.mem_of_getElem? (i := 56) rfl)
theorem w57 {a0 : Array Value} {Z : State} (hw : HW a0 Z) : (Jvm.Cond.fieldLink "com/example/quittance/quittance/AuditEntry" (13 : Nat) "com/example/quittance/quittance/AuditEntry" "document" "Ljava/lang/String;").before a0 Z = true := hw _ (List.mem_of_getElem? (i := 57) rfl)
theorem w58 {a0 : Array Value} {Z : State} (hw : HW a0 Z) : (Jvm.Cond.laysFinal "com/example/quittance/quittance/AuditEntry" "com/example/quittance/quittance/AuditEntry" "document" "Ljava/lang/String;").before a0 Z = true := hw _ (List.mem_of_getElem? (i := 58) rfl)
theorem w59 {a0 : Array Value} {Z : State} (hw : HW a0 Z) : (Jvm.Cond.fieldLink "com/example/quittance/quittance/AuditEntry" (17 : Nat) "com/example/quittance/quittance/AuditEntry" "invoice" "Ljava/lang/String;").before a0 Z = true := hw _ (List.mem_of_getElem? (i := 59) rfl)
theorem w60 {a0 : Array Value} {Z : State} (hw : HW a0 Z) : (Jvm.Cond.laysFinal "com/example/quittance/quittance/AuditEntry" "com/example/quittance/quittance/AuditEntry" "invoice" "Ljava/lang/String;").before a0 Z = true := hw _ (List.mem_of_getElem? (i := 60) rfl)
theorem w61 {a0 : Array Value} {Z : State} (hw : HW a0 Z) : (Jvm.Cond.fieldLink "com/example/quittance/quittance/AuditEntry" (20 : Nat) "com/example/quittance/quittance/AuditEntry" "amount" "Lcom/example/quittance/quittance/Amount;").before a0 Z = true := hw _ (List.mem_of_getElem? (i := 61) rfl)
theorem w62 {a0 : Array Value} {Z : State} (hw : HW a0 Z) : (Jvm.Cond.laysFinal "com/example/quittance/quittance/AuditEntry" "com/example/quittance/quittance/AuditEntry" "amount" "Lcom/example/quittance/quittance/Amount;").before a0 Z = true := hw _ (List.mem_of_getElem? (i := 62) rfl)
theorem w63 {a0 : Array Value} {Z : State} (hw : HW a0 Z) : (Jvm.Cond.fieldLink "com/example/quittance/quittance/AuditEntry" (24 : Nat) "com/example/quittance/quittance/AuditEntry" "reasonCode" "Ljava/lang/String;").before a0 Z = true := hw _ (List.mem_of_getElem? (i := 63) rfl)
theorem w64 {a0 : Array Value} {Z : State} (hw : HW a0 Z) : (Jvm.Cond.laysFinal "com/example/quittance/quittance/AuditEntry" "com/example/quittance/quittance/AuditEntry" "reasonCode" "Ljava/lang/String;").before a0 Z = true := hw _ (List.mem_of_getElem? (i := 64) rfl)
theorem w65 {a0 : Array Value} {Z : State} (hw : HW a0 Z) : (Jvm.Cond.methodLink "com/example/quittance/quittance/AuditEntryWithAmountPinLaw" (30 : Nat) ({ cls := "com/example/quittance/quittance/AuditEntry", name := "withAmount", desc := "(Lcom/example/quittance/quittance/Amount;)Lcom/example/quittance/quittance/AuditEntry;" } : Jvm.MethodName)).before a0 Z = true := hw _ (List.mem_of_getElem? (i := 65) rfl)
theorem w66 {a0 : Array Value} {Z : State} (hw : HW a0 Z) : (Jvm.Cond.declares ({ cls := "com/example/quittance/quittance/AuditEntry", name := "withAmount", desc := "(Lcom/example/quittance/quittance/Amount;)Lcom/example/quittance/quittance/AuditEntry;" } : Jvm.MethodName)).before a0 Z = true := hw _ (List.mem_of_getElem? (i := 66) rfl)
theorem w67 {a0 : Array Value} {Z : State} (hw : HW a0 Z) : (Jvm.Cond.instanceMethod ({ cls := "com/example/quittance/quittance/AuditEntry", name := "withAmount", desc := "(Lcom/example/quittance/quittance/Amount;)Lcom/example/quittance/quittance/AuditEntry;" } : Jvm.MethodName)).before a0 Z = true := hw _ (List.mem_of_getElem? (i := 67) rfl)
theorem w68 {a0 : Array Value} {Z : State} (hw : HW a0 Z) : (Jvm.Cond.selects "com/example/quittance/quittance/AuditEntry" ({ cls := "com/example/quittance/quittance/AuditEntry", name := "withAmount", desc := "(Lcom/example/quittance/quittance/Amount;)Lcom/example/quittance/quittance/AuditEntry;" } : Jvm.MethodName) ({ cls := "com/example/quittance/quittance/AuditEntry", name := "withAmount", desc := "(Lcom/example/quittance/quittance/Amount;)Lcom/example/quittance/quittance/AuditEntry;" } : Jvm.MethodName)).before a0 Z = true := hw _ (List.mem_of_getElem? (i := 68) rfl)
theorem w69 {a0 : Array Value} {Z : State} (hw : HW a0 Z) : (Jvm.Cond.code ({ cls := "com/example/quittance/quittance/AuditEntry", name := "withAmount", desc := "(Lcom/example/quittance/quittance/Amount;)Lcom/example/quittance/quittance/AuditEntry;" } : Jvm.MethodName) prog_3_method_4_code (2 : Nat) (Option.some (Jvm.ClassFile.FieldType.object "com/example/quittance/quittance/AuditEntry"))).before a0 Z = true := hw _ (List.mem_of_getElem? (i := 69) rfl)
theorem w70 {a0 : Array Value} {Z : State} (hw : HW a0 Z) : (Jvm.Cond.classLink "com/example/quittance/quittance/AuditEntry" (8 : Nat) "com/example/quittance/quittance/AuditEntry").before a0 Z = true := hw _ (List.mem_of_getElem? (i := 70) rfl)
theorem w71 {a0 : Array Value} {Z : State} (hw : HW a0 Z) : (Jvm.Cond.methodLink "com/example/quittance/quittance/AuditEntry" (27 : Nat) ({ cls := "com/example/quittance/quittance/AuditEntry", name := "<init>", desc := "(Lcom/example/quittance/quittance/AuditEntry$Action;Ljava/lang/String;Ljava/lang/String;Lcom/example/quittance/quittance/Amount;Ljava/lang/String;)V" } : Jvm.MethodName)).before a0 Z = true := hw _ (List.mem_of_getElem? (i := 71) rfl)
theorem w72 {a0 : Array Value} {Z : State} (hw : HW a0 Z) : (Jvm.Cond.methodLink "com/example/quittance/quittance/AuditEntryWithAmountPinLaw" (34 : Nat) ({ cls := "com/example/quittance/quittance/AuditEntry", name := "action", desc := "()Lcom/example/quittance/quittance/AuditEntry$Action;" } : Jvm.MethodName)).before a0 Z = true := hw _ (List.mem_of_getElem? (i := 72) rfl)
theorem w73 {a0 : Array Value} {Z : State} (hw : HW a0 Z) : (Jvm.Cond.declares ({ cls := "com/example/quittance/quittance/AuditEntry", name := "action", desc := "()Lcom/example/quittance/quittance/AuditEntry$Action;" } : Jvm.MethodName)).before a0 Z = true := hw _ (List.mem_of_getElem? (i := 73) rfl)
theorem w74 {a0 : Array Value} {Z : State} (hw : HW a0 Z) : (Jvm.Cond.instanceMethod ({ cls := "com/example/quittance/quittance/AuditEntry", name := "action", desc := "()Lcom/example/quittance/quittance/AuditEntry$Action;" } : Jvm.MethodName)).before a0 Z = true := hw _ (List.mem_of_getElem? (i := 74) rfl)
theorem w75 {a0 : Array Value} {Z : State} (hw : HW a0 Z) : (Jvm.Cond.selects "com/example/quittance/quittance/AuditEntry" ({ cls := "com/example/quittance/quittance/AuditEntry", name := "action", desc := "()Lcom/example/quittance/quittance/AuditEntry$Action;" } : Jvm.MethodName) ({ cls := "com/example/quittance/quittance/AuditEntry", name := "action", desc := "()Lcom/example/quittance/quittance/AuditEntry$Action;" } : Jvm.MethodName)).before a0 Z = true := hw _ (List.mem_of_getElem? (i := 75) rfl)
theorem w76 {a0 : Array Value} {Z : State} (hw : HW a0 Z) : (Jvm.Cond.code ({ cls := "com/example/quittance/quittance/AuditEntry", name := "action", desc := "()Lcom/example/quittance/quittance/AuditEntry$Action;" } : Jvm.MethodName) prog_3_method_9_code (1 : Nat) (Option.some (Jvm.ClassFile.FieldType.object "com/example/quittance/quittance/AuditEntry$Action"))).before a0 Z = true := hw _ (List.mem_of_getElem? (i := 76) rfl)
theorem w77 {a0 : Array Value} {Z : State} (hw : HW a0 Z) : (Jvm.Cond.methodLink "com/example/quittance/quittance/AuditEntryWithAmountPinLaw" (37 : Nat) ({ cls := "com/example/quittance/quittance/AuditEntry", name := "document", desc := "()Ljava/lang/String;" } : Jvm.MethodName)).before a0 Z = true := hw _ (List.mem_of_getElem? (i := 77) rfl)
theorem w78 {a0 : Array Value} {Z : State} (hw : HW a0 Z) : (Jvm.Cond.declares ({ cls := "com/example/quittance/quittance/AuditEntry", name := "document", desc := "()Ljava/lang/String;" } : Jvm.MethodName)).before a0 Z = true := hw _ (List.mem_of_getElem? (i := 78) rfl)
theorem w79 {a0 : Array Value} {Z : State} (hw : HW a0 Z) : (Jvm.Cond.instanceMethod ({ cls := "com/example/quittance/quittance/AuditEntry", name := "document", desc := "()Ljava/lang/String;" } : Jvm.MethodName)).before a0 Z = true := hw _ (List.mem_of_getElem? (i := 79) rfl)
theorem w80 {a0 : Array Value} {Z : State} (hw : HW a0 Z) : (Jvm.Cond.selects "com/example/quittance/quittance/AuditEntry" ({ cls := "com/example/quittance/quittance/AuditEntry", name := "document", desc := "()Ljava/lang/String;" } : Jvm.MethodName) ({ cls := "com/example/quittance/quittance/AuditEntry", name := "document", desc := "()Ljava/lang/String;" } : Jvm.MethodName)).before a0 Z = true := hw _ (List.mem_of_getElem? (i := 80) rfl)
theorem w81 {a0 : Array Value} {Z : State} (hw : HW a0 Z) : (Jvm.Cond.code ({ cls := "com/example/quittance/quittance/AuditEntry", name := "document", desc := "()Ljava/lang/String;" } : Jvm.MethodName) prog_3_method_10_code (1 : Nat) (Option.some (Jvm.ClassFile.FieldType.object "java/lang/String"))).before a0 Z = true := hw _ (List.mem_of_getElem? (i := 81) rfl)
theorem w82 {a0 : Array Value} {Z : State} (hw : HW a0 Z) : (Jvm.Cond.methodLink "com/example/quittance/quittance/AuditEntryWithAmountPinLaw" (41 : Nat) ({ cls := "com/example/quittance/quittance/AuditEntry", name := "invoice", desc := "()Ljava/lang/String;" } : Jvm.MethodName)).before a0 Z = true := hw _ (List.mem_of_getElem? (i := 82) rfl)
theorem w83 {a0 : Array Value} {Z : State} (hw : HW a0 Z) : (Jvm.Cond.declares ({ cls := "com/example/quittance/quittance/AuditEntry", name := "invoice", desc := "()Ljava/lang/String;" } : Jvm.MethodName)).before a0 Z = true := hw _ (List.mem_of_getElem? (i := 83) rfl)
theorem w84 {a0 : Array Value} {Z : State} (hw : HW a0 Z) : (Jvm.Cond.instanceMethod ({ cls := "com/example/quittance/quittance/AuditEntry", name := "invoice", desc := "()Ljava/lang/String;" } : Jvm.MethodName)).before a0 Z = true := hw _ (List.mem_of_getElem? (i := 84) rfl)
theorem w85 {a0 : Array Value} {Z : State} (hw : HW a0 Z) : (Jvm.Cond.selects "com/example/quittance/quittance/AuditEntry" ({ cls := "com/example/quittance/quittance/AuditEntry", name := "invoice", desc := "()Ljava/lang/String;" } : Jvm.MethodName) ({ cls := "com/example/quittance/quittance/AuditEntry", name := "invoice", desc := "()Ljava/lang/String;" } : Jvm.MethodName)).before a0 Z = true := hw _ (List.mem_of_getElem? (i := 85) rfl)
theorem w86 {a0 : Array Value} {Z : State} (hw : HW a0 Z) : (Jvm.Cond.code ({ cls := "com/example/quittance/quittance/AuditEntry", name := "invoice", desc := "()Ljava/lang/String;" } : Jvm.MethodName) prog_3_method_11_code (1 : Nat) (Option.some (Jvm.ClassFile.FieldType.object "java/lang/String"))).before a0 Z = true := hw _ (List.mem_of_getElem? (i := 86) rfl)
theorem w87 {a0 : Array Value} {Z : State} (hw : HW a0 Z) : (Jvm.Cond.methodLink "com/example/quittance/quittance/AuditEntryWithAmountPinLaw" (44 : Nat) ({ cls := "com/example/quittance/quittance/AuditEntry", name := "amount", desc := "()Lcom/example/quittance/quittance/Amount;" } : Jvm.MethodName)).before a0 Z = true := hw _ (List.mem_of_getElem? (i := 87) rfl)
theorem w88 {a0 : Array Value} {Z : State} (hw : HW a0 Z) : (Jvm.Cond.declares ({ cls := "com/example/quittance/quittance/AuditEntry", name := "amount", desc := "()Lcom/example/quittance/quittance/Amount;" } : Jvm.MethodName)).before a0 Z = true := hw _ (List.mem_of_getElem? (i := 88) rfl)
theorem w89 {a0 : Array Value} {Z : State} (hw : HW a0 Z) : (Jvm.Cond.instanceMethod ({ cls := "com/example/quittance/quittance/AuditEntry", name := "amount", desc := "()Lcom/example/quittance/quittance/Amount;" } : Jvm.MethodName)).before a0 Z = true := hw _ (List.mem_of_getElem? (i := 89) rfl)
theorem w90 {a0 : Array Value} {Z : State} (hw : HW a0 Z) : (Jvm.Cond.selects "com/example/quittance/quittance/AuditEntry" ({ cls := "com/example/quittance/quittance/AuditEntry", name := "amount", desc := "()Lcom/example/quittance/quittance/Amount;" } : Jvm.MethodName) ({ cls := "com/example/quittance/quittance/AuditEntry", name := "amount", desc := "()Lcom/example/quittance/quittance/Amount;" } : Jvm.MethodName)).before a0 Z = true := hw _ (List.mem_of_getElem? (i := 90) rfl)
theorem w91 {a0 : Array Value} {Z : State} (hw : HW a0 Z) : (Jvm.Cond.code ({ cls := "com/example/quittance/quittance/AuditEntry", name := "amount", desc := "()Lcom/example/quittance/quittance/Amount;" } : Jvm.MethodName) prog_3_method_12_code (1 : Nat) (Option.some (Jvm.ClassFile.FieldType.object "com/example/quittance/quittance/Amount"))).before a0 Z = true := hw _ (List.mem_of_getElem? (i := 91) rfl)
theorem w92 {a0 : Array Value} {Z : State} (hw : HW a0 Z) : (Jvm.Cond.methodLink "com/example/quittance/quittance/AuditEntryWithAmountPinLaw" (48 : Nat) ({ cls := "com/example/quittance/quittance/AuditEntry", name := "reasonCode", desc := "()Ljava/lang/String;" } : Jvm.MethodName)).before a0 Z = true := hw _ (List.mem_of_getElem? (i := 92) rfl)
theorem w93 {a0 : Array Value} {Z : State} (hw : HW a0 Z) : (Jvm.Cond.declares ({ cls := "com/example/quittance/quittance/AuditEntry", name := "reasonCode", desc := "()Ljava/lang/String;" } : Jvm.MethodName)).before a0 Z = true := hw _ (List.mem_of_getElem? (i := 93) rfl)
theorem w94 {a0 : Array Value} {Z : State} (hw : HW a0 Z) : (Jvm.Cond.instanceMethod ({ cls := "com/example/quittance/quittance/AuditEntry", name := "reasonCode", desc := "()Ljava/lang/String;" } : Jvm.MethodName)).before a0 Z = true := hw _ (List.mem_of_getElem? (i := 94) rfl)
theorem w95 {a0 : Array Value} {Z : State} (hw : HW a0 Z) : (Jvm.Cond.selects "com/example/quittance/quittance/AuditEntry" ({ cls := "com/example/quittance/quittance/AuditEntry", name := "reasonCode", desc := "()Ljava/lang/String;" } : Jvm.MethodName) ({ cls := "com/example/quittance/quittance/AuditEntry", name := "reasonCode", desc := "()Ljava/lang/String;" } : Jvm.MethodName)).before a0 Z = true := hw _ (List.mem_of_getElem? (i := 95) rfl)
theorem w96 {a0 : Array Value} {Z : State} (hw : HW a0 Z) : (Jvm.Cond.code ({ cls := "com/example/quittance/quittance/AuditEntry", name := "reasonCode", desc := "()Ljava/lang/String;" } : Jvm.MethodName) prog_3_method_13_code (1 : Nat) (Option.some (Jvm.ClassFile.FieldType.object "java/lang/String"))).before a0 Z = true := hw _ (List.mem_of_getElem? (i := 96) rfl)
theorem w97 {a0 : Array Value} {Z : State} (hw : HW a0 Z) : (Jvm.Cond.fieldLink "com/example/quittance/quittance/AuditEntryWithAmountPinLaw" (57 : Nat) "com/example/quittance/quittance/AuditEntry$Action" "CUSTOMER_CREATED" "Lcom/example/quittance/quittance/AuditEntry$Action;").before a0 Z = true := hw _ (List.mem_of_getElem? (i := 97) rfl)
theorem w98 {a0 : Array Value} {Z : State} (hw : HW a0 Z) : (Jvm.Cond.laysStatic "com/example/quittance/quittance/AuditEntry$Action" "CUSTOMER_CREATED" "Lcom/example/quittance/quittance/AuditEntry$Action;").before a0 Z = true := hw _ (List.mem_of_getElem? (i := 98) rfl)
theorem w99 {a0 : Array Value} {Z : State} (hw : HW a0 Z) : (Jvm.Cond.fieldLink "com/example/quittance/quittance/AuditEntryWithAmountPinLaw" (75 : Nat) "com/example/quittance/quittance/AuditEntry$Action" "PAYMENT_APPLICATION_REVERSED" "Lcom/example/quittance/quittance/AuditEntry$Action;").before a0 Z = true := hw _ (List.mem_of_getElem? (i := 99) rfl)
theorem w100 {a0 : Array Value} {Z : State} (hw : HW a0 Z) : (Jvm.Cond.laysStatic "com/example/quittance/quittance/AuditEntry$Action" "PAYMENT_APPLICATION_REVERSED" "Lcom/example/quittance/quittance/AuditEntry$Action;").before a0 Z = true := hw _ (List.mem_of_getElem? (i := 100) rfl)
theorem w101 {a0 : Array Value} {Z : State} (hw : HW a0 Z) : (Jvm.Cond.fieldLink "com/example/quittance/quittance/AuditEntryWithAmountPinLaw" (93 : Nat) "com/example/quittance/quittance/AuditEntry$Action" "CREDIT_NOTE_VOIDED" "Lcom/example/quittance/quittance/AuditEntry$Action;").before a0 Z = true := hw _ (List.mem_of_getElem? (i := 101) rfl)
theorem w102 {a0 : Array Value} {Z : State} (hw : HW a0 Z) : (Jvm.Cond.laysStatic "com/example/quittance/quittance/AuditEntry$Action" "CREDIT_NOTE_VOIDED" "Lcom/example/quittance/quittance/AuditEntry$Action;").before a0 Z = true := hw _ (List.mem_of_getElem? (i := 102) rfl)
theorem w103 {a0 : Array Value} {Z : State} (hw : HW a0 Z) : (Jvm.Cond.fieldLink "com/example/quittance/quittance/AuditEntryWithAmountPinLaw" (72 : Nat) "com/example/quittance/quittance/AuditEntry$Action" "PAYMENT_APPLIED" "Lcom/example/quittance/quittance/AuditEntry$Action;").before a0 Z = true := hw _ (List.mem_of_getElem? (i := 103) rfl)
theorem w104 {a0 : Array Value} {Z : State} (hw : HW a0 Z) : (Jvm.Cond.laysStatic "com/example/quittance/quittance/AuditEntry$Action" "PAYMENT_APPLIED" "Lcom/example/quittance/quittance/AuditEntry$Action;").before a0 Z = true := hw _ (List.mem_of_getElem? (i := 104) rfl)
theorem w105 {a0 : Array Value} {Z : State} (hw : HW a0 Z) : (Jvm.Cond.fieldLink "com/example/quittance/quittance/AuditEntryWithAmountPinLaw" (90 : Nat) "com/example/quittance/quittance/AuditEntry$Action" "CREDIT_REFUNDED" "Lcom/example/quittance/quittance/AuditEntry$Action;").before a0 Z = true := hw _ (List.mem_of_getElem? (i := 105) rfl)
theorem w106 {a0 : Array Value} {Z : State} (hw : HW a0 Z) : (Jvm.Cond.laysStatic "com/example/quittance/quittance/AuditEntry$Action" "CREDIT_REFUNDED" "Lcom/example/quittance/quittance/AuditEntry$Action;").before a0 Z = true := hw _ (List.mem_of_getElem? (i := 106) rfl)
theorem w107 {a0 : Array Value} {Z : State} (hw : HW a0 Z) : (Jvm.Cond.fieldLink "com/example/quittance/quittance/AuditEntryWithAmountPinLaw" (78 : Nat) "com/example/quittance/quittance/AuditEntry$Action" "CUSTOMER_CREDIT_CREATED" "Lcom/example/quittance/quittance/AuditEntry$Action;").before a0 Z = true := hw _ (List.mem_of_getElem? (i := 107) rfl)
theorem w108 {a0 : Array Value} {Z : State} (hw : HW a0 Z) : (Jvm.Cond.laysStatic "com/example/quittance/quittance/AuditEntry$Action" "CUSTOMER_CREDIT_CREATED" "Lcom/example/quittance/quittance/AuditEntry$Action;").before a0 Z = true := hw _ (List.mem_of_getElem? (i := 108) rfl)
theorem w109 {a0 : Array Value} {Z : State} (hw : HW a0 Z) : (Jvm.Cond.fieldLink "com/example/quittance/quittance/AuditEntryWithAmountPinLaw" (63 : Nat) "com/example/quittance/quittance/AuditEntry$Action" "INVOICE_POSTED" "Lcom/example/quittance/quittance/AuditEntry$Action;").before a0 Z = true := hw _ (List.mem_of_getElem? (i := 109) rfl)
theorem w110 {a0 : Array Value} {Z : State} (hw : HW a0 Z) : (Jvm.Cond.laysStatic "com/example/quittance/quittance/AuditEntry$Action" "INVOICE_POSTED" "Lcom/example/quittance/quittance/AuditEntry$Action;").before a0 Z = true := hw _ (List.mem_of_getElem? (i := 110) rfl)
theorem w111 {a0 : Array Value} {Z : State} (hw : HW a0 Z) : (Jvm.Cond.fieldLink "com/example/quittance/quittance/AuditEntryWithAmountPinLaw" (87 : Nat) "com/example/quittance/quittance/AuditEntry$Action" "CREDIT_ALLOCATED" "Lcom/example/quittance/quittance/AuditEntry$Action;").before a0 Z = true := hw _ (List.mem_of_getElem? (i := 111) rfl)
theorem w112 {a0 : Array Value} {Z : State} (hw : HW a0 Z) : (Jvm.Cond.laysStatic "com/example/quittance/quittance/AuditEntry$Action" "CREDIT_ALLOCATED" "Lcom/example/quittance/quittance/AuditEntry$Action;").before a0 Z = true := hw _ (List.mem_of_getElem? (i := 112) rfl)
theorem w113 {a0 : Array Value} {Z : State} (hw : HW a0 Z) : (Jvm.Cond.fieldLink "com/example/quittance/quittance/AuditEntryWithAmountPinLaw" (69 : Nat) "com/example/quittance/quittance/AuditEntry$Action" "PAYMENT_RECORDED" "Lcom/example/quittance/quittance/AuditEntry$Action;").before a0 Z = true := hw _ (List.mem_of_getElem? (i := 113) rfl)
theorem w114 {a0 : Array Value} {Z : State} (hw : HW a0 Z) : (Jvm.Cond.laysStatic "com/example/quittance/quittance/AuditEntry$Action" "PAYMENT_RECORDED" "Lcom/example/quittance/quittance/AuditEntry$Action;").before a0 Z = true := hw _ (List.mem_of_getElem? (i := 114) rfl)
theorem w115 {a0 : Array Value} {Z : State} (hw : HW a0 Z) : (Jvm.Cond.fieldLink "com/example/quittance/quittance/AuditEntryWithAmountPinLaw" (60 : Nat) "com/example/quittance/quittance/AuditEntry$Action" "INVOICE_DRAFTED" "Lcom/example/quittance/quittance/AuditEntry$Action;").before a0 Z = true := hw _ (List.mem_of_getElem? (i := 115) rfl)
theorem w116 {a0 : Array Value} {Z : State} (hw : HW a0 Z) : (Jvm.Cond.laysStatic "com/example/quittance/quittance/AuditEntry$Action" "INVOICE_DRAFTED" "Lcom/example/quittance/quittance/AuditEntry$Action;").before a0 Z = true := hw _ (List.mem_of_getElem? (i := 116) rfl)
theorem w117 {a0 : Array Value} {Z : State} (hw : HW a0 Z) : (Jvm.Cond.fieldLink "com/example/quittance/quittance/AuditEntryWithAmountPinLaw" (84 : Nat) "com/example/quittance/quittance/AuditEntry$Action" "CREDIT_MEMO_POSTED" "Lcom/example/quittance/quittance/AuditEntry$Action;").before a0 Z = true := hw _ (List.mem_of_getElem? (i := 117) rfl)
theorem w118 {a0 : Array Value} {Z : State} (hw : HW a0 Z) : (Jvm.Cond.laysStatic "com/example/quittance/quittance/AuditEntry$Action" "CREDIT_MEMO_POSTED" "Lcom/example/quittance/quittance/AuditEntry$Action;").before a0 Z = true := hw _ (List.mem_of_getElem? (i := 118) rfl)
theorem w119 {a0 : Array Value} {Z : State} (hw : HW a0 Z) : (Jvm.Cond.fieldLink "com/example/quittance/quittance/AuditEntryWithAmountPinLaw" (66 : Nat) "com/example/quittance/quittance/AuditEntry$Action" "INVOICE_ADJUSTED" "Lcom/example/quittance/quittance/AuditEntry$Action;").before a0 Z = true := hw _ (List.mem_of_getElem? (i := 119) rfl)
theorem w120 {a0 : Array Value} {Z : State} (hw : HW a0 Z) : (Jvm.Cond.laysStatic "com/example/quittance/quittance/AuditEntry$Action" "INVOICE_ADJUSTED" "Lcom/example/quittance/quittance/AuditEntry$Action;").before a0 Z = true := hw _ (List.mem_of_getElem? (i := 120) rfl)
theorem w121 {a0 : Array Value} {Z : State} (hw : HW a0 Z) : (Jvm.Cond.fieldLink "com/example/quittance/quittance/AuditEntryWithAmountPinLaw" (81 : Nat) "com/example/quittance/quittance/AuditEntry$Action" "CREDIT_NOTE_DRAFTED" "Lcom/example/quittance/quittance/AuditEntry$Action;").before a0 Z = true := hw _ (List.mem_of_getElem? (i := 121) rfl)
theorem w122 {a0 : Array Value} {Z : State} (hw : HW a0 Z) : (Jvm.Cond.laysStatic "com/example/quittance/quittance/AuditEntry$Action" "CREDIT_NOTE_DRAFTED" "Lcom/example/quittance/quittance/AuditEntry$Action;").before a0 Z = true := hw _ (List.mem_of_getElem? (i := 122) rfl)
theorem pd_0 : parseMethodDescriptor "(C)Z" = some ⟨[.char], some .boolean⟩ := by decide +kernel
theorem pd_1 : parseMethodDescriptor "(C)[B" = some ⟨[.char], some (.array .byte)⟩ := by decide +kernel
theorem pd_2 : parseMethodDescriptor "([BB)V" = some ⟨[(.array .byte), .byte], none⟩ := by decide +kernel
theorem pd_3 : parseMethodDescriptor "()V" = some ⟨[], none⟩ := by decide +kernel
theorem pd_4 : parseMethodDescriptor "(Lcom/example/quittance/quittance/AuditEntry$Action;Ljava/lang/String;Ljava/lang/String;Lcom/example/quittance/quittance/Amount;Ljava/lang/String;)V" = some ⟨[(.object "com/example/quittance/quittance/AuditEntry$Action"), (.object "java/lang/String"), (.object "java/lang/String"), (.object "com/example/quittance/quittance/Amount"), (.object "java/lang/String")], none⟩ := by decide +kernel
theorem pd_5 : parseMethodDescriptor "(I)Lcom/example/quittance/quittance/AuditEntry$Action;" = some ⟨[.int], some (.object "com/example/quittance/quittance/AuditEntry$Action")⟩ := by decide +kernel
theorem pd_6 : parseMethodDescriptor "(C)Ljava/lang/String;" = some ⟨[.char], some (.object "java/lang/String")⟩ := by decide +kernel
theorem pd_7 : parseMethodDescriptor "(J)V" = some ⟨[.long], none⟩ := by decide +kernel
theorem pd_8 : parseMethodDescriptor "(Lcom/example/quittance/quittance/Amount;)Lcom/example/quittance/quittance/AuditEntry;" = some ⟨[(.object "com/example/quittance/quittance/Amount")], some (.object "com/example/quittance/quittance/AuditEntry")⟩ := by decide +kernel
theorem pd_9 : parseMethodDescriptor "()Lcom/example/quittance/quittance/AuditEntry$Action;" = some ⟨[], some (.object "com/example/quittance/quittance/AuditEntry$Action")⟩ := by decide +kernel
theorem pd_10 : parseMethodDescriptor "()Ljava/lang/String;" = some ⟨[], some (.object "java/lang/String")⟩ := by decide +kernel
theorem pd_11 : parseMethodDescriptor "()Lcom/example/quittance/quittance/Amount;" = some ⟨[], some (.object "com/example/quittance/quittance/Amount")⟩ := by decide +kernel
theorem pn_0 : plainName "java/lang/StringLatin1" = true := by first | (simp [plainName, overriddenIn]; done) | decide +kernel
theorem pn_1 : plainName "java/lang/String" = true := by first | (simp [plainName, overriddenIn]; done) | decide +kernel
theorem pn_2 : plainName "java/lang/Record" = true := by first | (simp [plainName, overriddenIn]; done) | decide +kernel
theorem pn_3 : plainName "com/example/quittance/quittance/Amount" = true := by first | (simp [plainName, overriddenIn]; done) | decide +kernel
theorem pn_4 : plainName "com/example/quittance/quittance/AuditEntry" = true := by first | (simp [plainName, overriddenIn]; done) | decide +kernel
theorem pn_5 : plainName "com/example/quittance/quittance/AuditEntryWithAmountPinLaw" = true := by first | (simp [plainName, overriddenIn]; done) | decide +kernel
theorem d3_0 : decode jdk_43_method_3_code 0 = .ok (.iload_n 0, 1) := by decide +kernel
theorem d3_1 : decode jdk_43_method_3_code 1 = .ok (.sipush 255, 3) := by decide +kernel
theorem d3_4 : decode jdk_43_method_3_code 4 = .ok (.if_icmp .gt 7, 3) := by decide +kernel
theorem d3_7 : decode jdk_43_method_3_code 7 = .ok (.iconst 1, 1) := by decide +kernel
theorem d3_8 : decode jdk_43_method_3_code 8 = .ok (.goto 4, 3) := by decide +kernel
theorem d3_11 : decode jdk_43_method_3_code 11 = .ok (.iconst 0, 1) := by decide +kernel
theorem d3_12 : decode jdk_43_method_3_code 12 = .ok (.ireturn, 1) := by decide +kernel
def F3 (x0 : Int32) : Int32 := (if (255 : Int32) < x0 then (0 : Int32) else (1 : Int32))
set_option maxRecDepth 65536 in
set_option maxHeartbeats 40000000 in
theorem b3 {l : Launch} {Z : State} {a0 : Array Value} (hw : HW a0 Z) (x0 : Int32) {n0 : Nat} {h : Heap}  : OM l Z (⟨"java/lang/StringLatin1", "canEncode", "(C)Z"⟩ : MethodName) jdk_43_method_3_code 1 (some .boolean) ⟨0, 0, 0, 0⟩ n0 h #[(.int x0)] (fun v h' => v = some (.int (nar .boolean (F3 x0))) ∧ h' = h) 0 0 := by
  refine OM.of_body (ls := #[.val (.int x0)]) (plainFor_of_name pn_0) (fun m => by first | rfl | simp [entryFrame, mkF, argsToLocals, Value.category]) ?_
  intro p e s m below meth c C
  refine OG.ow (OG.iloadN C d3_0 rfl (pc' := 1) rfl) ?_
  refine OG.ow (OG.sipush C d3_1 (z := (255 : Int32)) (by decide) (pc' := 4) rfl) ?_
  refine OG.ow (OG.ite (α := Int32) (P := (255 : Int32) < x0) (f := fun v => (mkF m 12 #[.val (.int x0)] [(.int v)])) (x := (0 : Int32)) (y := (1 : Int32)) (fun hc => ?_) (fun hc => ?_)) ?_
  · refine OG.trans (OG.icmpYes C d3_4 (tlt hc).2.2.1 (by decide) (pc' := 11) (by decide)) ?_
    refine OG.trans (OG.iconst C d3_11 (z := (0 : Int32)) rfl (pc' := 12) rfl) ?_
    exact OG.refl
  · refine OG.trans (OG.icmpNo C d3_4 (flt hc).2.2.1 (pc' := 7) rfl) ?_
    refine OG.trans (OG.iconst C d3_7 (z := (1 : Int32)) rfl (pc' := 8) rfl) ?_
    refine OG.trans (OG.goto C d3_8 (by decide) (pc' := 12) (by decide)) ?_
    exact OG.refl
  refine OW.retN (t := .boolean) C (by simp) d3_12 (by decide) (by decide) ?_
  refine ⟨congrArg (fun z => some (Value.int (nar .boolean z))) ?_, rfl⟩
  show _ = F3 x0
  rfl
theorem d4_0 : decode jdk_43_method_46_code 0 = .ok (.iconst 1, 1) := by decide +kernel
theorem d4_1 : decode jdk_43_method_46_code 1 = .ok (.newarray .byte, 2) := by decide +kernel
theorem d4_3 : decode jdk_43_method_46_code 3 = .ok (.dup, 1) := by decide +kernel
theorem d4_4 : decode jdk_43_method_46_code 4 = .ok (.iconst 0, 1) := by decide +kernel
theorem d4_5 : decode jdk_43_method_46_code 5 = .ok (.iload_n 0, 1) := by decide +kernel
theorem d4_6 : decode jdk_43_method_46_code 6 = .ok (.i2b, 1) := by decide +kernel
theorem d4_7 : decode jdk_43_method_46_code 7 = .ok (.bastore, 1) := by decide +kernel
theorem d4_8 : decode jdk_43_method_46_code 8 = .ok (.areturn, 1) := by decide +kernel
set_option maxRecDepth 65536 in
set_option maxHeartbeats 40000000 in
theorem b4 {l : Launch} {Z : State} {a0 : Array Value} (hw : HW a0 Z) (x0 : Int32) {n0 : Nat} {h : Heap} (Z0 : n0 ≤ h.size) : OM l Z (⟨"java/lang/StringLatin1", "toBytes", "(C)[B"⟩ : MethodName) jdk_43_method_46_code 1 (some (.array .byte)) ⟨0, 1, 1, 0⟩ n0 h #[(.int x0)] (fun v h' => ∃ a : Addr, v = some (.ref a) ∧ h.size ≤ a ∧ Keep h h' []) 1 1 := by
  refine OM.of_body (ls := #[.val (.int x0)]) (plainFor_of_name pn_0) (fun m => by first | rfl | simp [entryFrame, mkF, argsToLocals, Value.category]) ?_
  intro p e s m below meth c C
  refine OG.ow (OG.iconst C d4_0 (z := (1 : Int32)) rfl (pc' := 1) rfl) ?_
  refine OW.newP C (ty := .byte) rfl (w22 hw) (by decide) (cap := 1) (by decide) (by decide) d4_1 (by decide) (by decide) (pc' := 3) rfl ?_
  intro a1 h2 ga1 Eh2 Aa1
  refine OG.ow (OG.dup C d4_3 rfl (pc' := 4) rfl) ?_
  refine OG.ow (OG.iconst C d4_4 (z := (0 : Int32)) rfl (pc' := 5) rfl) ?_
  refine OG.ow (OG.iloadN C d4_5 rfl (pc' := 6) rfl) ?_
  refine OG.ow (OG.i2b C d4_6 (pc' := 7) rfl) ?_
  refine OW.bastore C (show OA Z h2 a1 .byte [(.int (0 : Int32))] from Aa1) (own_ib (n := 1) rfl (by decide)) (Nat.le_trans Z0 (Nat.le_of_eq ga1)) d4_7 (pc' := 8) rfl ?_
  intro h3 Wh3
  have G4 : OA Z h3 a1 .byte [(.int (nar .byte x0.toInt8.toInt32))] := OA.same (show OA Z h2 a1 .byte [(.int (0 : Int32))] from Aa1) Wh3
  refine OW.retA C rfl rfl d4_8 (by decide) (by decide) ?_
  exact ⟨_, rfl, (Nat.le_of_eq ga1), (((Keep.refl h []).ext Eh2).wr Wh3 (Or.inr (Nat.le_trans (Nat.le_refl _) (Nat.le_of_eq ga1))))⟩
theorem d5_0 : decode jdk_42_method_151_code 0 = .ok (.aload_n 0, 1) := by decide +kernel
theorem d5_1 : decode jdk_42_method_151_code 1 = .ok (.invokespecial 1, 3) := by decide +kernel
theorem d5_4 : decode jdk_42_method_151_code 4 = .ok (.aload_n 0, 1) := by decide +kernel
theorem d5_5 : decode jdk_42_method_151_code 5 = .ok (.aload_n 1, 1) := by decide +kernel
theorem d5_6 : decode jdk_42_method_151_code 6 = .ok (.putfield 9, 3) := by decide +kernel
theorem d5_9 : decode jdk_42_method_151_code 9 = .ok (.aload_n 0, 1) := by decide +kernel
theorem d5_10 : decode jdk_42_method_151_code 10 = .ok (.iload_n 2, 1) := by decide +kernel
theorem d5_11 : decode jdk_42_method_151_code 11 = .ok (.putfield 15, 3) := by decide +kernel
theorem d5_14 : decode jdk_42_method_151_code 14 = .ok (.return_, 1) := by decide +kernel
set_option maxRecDepth 65536 in
set_option maxHeartbeats 40000000 in
theorem b5 {l : Launch} {Z : State} {a0 : Array Value} (hw : HW a0 Z) (x0 : Addr) (x1 : Addr) (x2 : Int32) {n0 : Nat} {h : Heap} (Z0 : n0 ≤ h.size) (g0 : n0 ≤ x0) (E0 : Exa Z h x0 "java/lang/String") (F0 : Fld Z h x0 "java/lang/String" "value" "[B" .null) (F1 : Fld Z h x0 "java/lang/String" "coder" "B" (.int (0 : Int32))) (hx2 : x2 = (0 : Int32)) : OM l Z (⟨"java/lang/String", "<init>", "([BB)V"⟩ : MethodName) jdk_42_method_151_code 3 none ⟨1, 0, 0, 12⟩ n0 h #[(.ref x0), (.ref x1), (.int x2)] (fun v h' => v = none ∧ Keep h h' [x0]) 0 0 := by
  refine OM.of_body (ls := #[.val (.ref x0), .val (.ref x1), .val (.int x2)]) (plainFor_of_name pn_1) (fun m => by first | rfl | simp [entryFrame, mkF, argsToLocals, Value.category]) ?_
  intro p e s m below meth c C
  refine OG.ow (OG.aloadN C d5_0 rfl rfl (pc' := 1) rfl) ?_
  refine OG.ow (OG.initO C (w27 hw) (w28 hw) (w29 hw) d5_1 rfl (by decide) (W := 0) rfl (by decide) (pc' := 4) rfl) ?_
  refine OG.ow (OG.aloadN C d5_4 rfl rfl (pc' := 5) rfl) ?_
  refine OG.ow (OG.aloadN C d5_5 rfl rfl (pc' := 6) rfl) ?_
  refine OW.putF C (host := "") (Or.inl (w30 hw)) Via.refl F0 E0 (Or.inr ⟨(w31 hw), rfl, rfl⟩) (w18 hw) (ty := (.array .byte)) (by decide) rfl rfl g0 d5_6 (pc' := 9) rfl ?_
  intro h1 Wh1
  have G2 := Fld.same Wh1 F0
  refine OG.ow (OG.aloadN C d5_9 rfl rfl (pc' := 10) rfl) ?_
  refine OG.ow (OG.iloadN C d5_10 rfl (pc' := 11) rfl) ?_
  have G3 := (Fld.other Wh1 F1 (Or.inr (slot_ne (Or.inr (w33 hw)) (Or.inr (w31 hw)) (by decide) (t := .byte) (t' := (.array .byte)) (by decide) (by decide))))
  have G4 := (Exa.wr Wh1 E0)
  refine OW.putF C (host := "") (Or.inl (w32 hw)) Via.refl G3 G4 (Or.inr ⟨(w33 hw), rfl, rfl⟩) (w18 hw) (ty := .byte) (by decide) (by subst hx2; rfl) (by subst hx2; rfl) g0 d5_11 (pc' := 14) rfl ?_
  intro h5 Wh5
  have G6 := Fld.same Wh5 G3
  refine OW.retV C d5_14 (by decide) (by decide) ?_
  exact ⟨rfl, (((Keep.refl h [x0]).wr Wh1 (Or.inl (List.mem_of_getElem? (i := 0) rfl))).wr Wh5 (Or.inl (List.mem_of_getElem? (i := 0) rfl)))⟩
theorem own_can (x : Int32) (h1 : ¬ (255 : Int32) < x) : ¬ (nar .boolean (F3 x)) = (0 : Int32) := by
  unfold F3
  first | (rw [if_neg h1]; decide) | (simp only [h1, if_false]; decide)
theorem d2_0 : decode jdk_42_method_139_code 0 = .ok (.getstatic 38, 3) := by decide +kernel
theorem d2_3 : decode jdk_42_method_139_code 3 = .ok (.ifCond .eq 23, 3) := by decide +kernel
theorem d2_6 : decode jdk_42_method_139_code 6 = .ok (.iload_n 0, 1) := by decide +kernel
theorem d2_7 : decode jdk_42_method_139_code 7 = .ok (.invokestatic 1015, 3) := by decide +kernel
theorem d2_10 : decode jdk_42_method_139_code 10 = .ok (.ifCond .eq 16, 3) := by decide +kernel
theorem d2_13 : decode jdk_42_method_139_code 13 = .ok (.new 10, 3) := by decide +kernel
theorem d2_16 : decode jdk_42_method_139_code 16 = .ok (.dup, 1) := by decide +kernel
theorem d2_17 : decode jdk_42_method_139_code 17 = .ok (.iload_n 0, 1) := by decide +kernel
theorem d2_18 : decode jdk_42_method_139_code 18 = .ok (.invokestatic 1018, 3) := by decide +kernel
theorem d2_21 : decode jdk_42_method_139_code 21 = .ok (.iconst 0, 1) := by decide +kernel
theorem d2_22 : decode jdk_42_method_139_code 22 = .ok (.invokespecial 209, 3) := by decide +kernel
theorem d2_25 : decode jdk_42_method_139_code 25 = .ok (.areturn, 1) := by decide +kernel
theorem d2_26 : decode jdk_42_method_139_code 26 = .ok (.new 10, 3) := by decide +kernel
theorem d2_29 : decode jdk_42_method_139_code 29 = .ok (.dup, 1) := by decide +kernel
theorem d2_30 : decode jdk_42_method_139_code 30 = .ok (.iload_n 0, 1) := by decide +kernel
theorem d2_31 : decode jdk_42_method_139_code 31 = .ok (.invokestatic 1021, 3) := by decide +kernel
theorem d2_34 : decode jdk_42_method_139_code 34 = .ok (.iconst 1, 1) := by decide +kernel
theorem d2_35 : decode jdk_42_method_139_code 35 = .ok (.invokespecial 209, 3) := by decide +kernel
theorem d2_38 : decode jdk_42_method_139_code 38 = .ok (.areturn, 1) := by decide +kernel
set_option maxRecDepth 65536 in
set_option maxHeartbeats 40000000 in
theorem b2 {l : Launch} {Z : State} {a0 : Array Value} (hw : HW a0 Z) (x0 : Int32) {cs : Int32} {n0 : Nat} {h : Heap} (Z0 : n0 ≤ h.size) (S0 : Sta Z h "java/lang/String" "COMPACT_STRINGS" "Z" (.int cs)) (hcs : ¬ cs = (0 : Int32)) (hx0 : ¬ (255 : Int32) < x0) : OM l Z (⟨"java/lang/String", "valueOf", "(C)Ljava/lang/String;"⟩ : MethodName) jdk_42_method_139_code 1 (some (.object "java/lang/String")) ⟨2, 2, 5, 27⟩ n0 h #[(.int x0)] (fun v h' => ∃ a : Addr, v = some (.ref a) ∧ h.size ≤ a ∧ Keep h h' [] ∧ Exa Z h' a "java/lang/String") 2 5 := by
  refine OM.of_body (ls := #[.val (.int x0)]) (plainFor_of_name pn_1) (fun m => by first | rfl | simp [entryFrame, mkF, argsToLocals, Value.category]) ?_
  intro p e s m below meth c C
  refine OG.ow (OG.getS C (host := "") (Or.inl (w12 hw)) Via.refl S0 d2_0 (pc' := 3) rfl) ?_
  refine OG.ow (OG.ifNo C d2_3 ((if0 _ _).trans (feq hcs).1) (pc' := 6) rfl) ?_
  refine OG.ow (OG.iloadN C d2_6 rfl (pc' := 7) rfl) ?_
  refine OG.ow (OG.callS C (w13 hw) (w14 hw) (w15 hw) (w16 hw) (by decide) (b3 hw x0) d2_7 pd_0 rfl (argsL := [(.int x0)]) (rest := []) rfl rfl (W := 0) rfl (by decide) (by decide) (pc' := 10) rfl) ?_
  refine OG.ow (OG.ifNo C d2_10 ((if0 _ _).trans (feq (own_can x0 hx0)).1) (pc' := 13) rfl) ?_
  refine OW.newO C (w17 hw) (w18 hw) (w10 hw) d2_13 (by decide) (by decide) (pc' := 16) rfl ?_
  intro a1 h2 ga1 Eh2 Aa1 Da1
  refine OG.ow (OG.dup C d2_16 rfl (pc' := 17) rfl) ?_
  refine OG.ow (OG.iloadN C d2_17 rfl (pc' := 18) rfl) ?_
  refine OW.callS C (w19 hw) (w20 hw) (w15 hw) (w21 hw) (by decide) (b4 hw x0 (Nat.le_trans Z0 Eh2.1)) d2_18 pd_1 rfl (argsL := [(.int x0)]) (rest := [(.ref a1), (.ref a1)]) rfl rfl (W := 2) rfl (by decide) (by decide) (by decide) (by decide) (pc' := 21) rfl ?_
  intro vh3 h3 qh3
  obtain ⟨a4, rfl, ga4, Kh3⟩ := qh3
  refine OG.ow (OG.iconst C d2_21 (z := (0 : Int32)) rfl (pc' := 22) rfl) ?_
  have G5 := (Aa1.keep Kh3)
  have G6 := ((show Fld Z h2 a1 "java/lang/String" "value" "[B" .null from Da1 (Or.inr (w31 hw)) (ty := (.array .byte)) (by decide)).keep Kh3 nin0)
  have G7 := ((show Fld Z h2 a1 "java/lang/String" "coder" "B" (.int (0 : Int32)) from Da1 (Or.inr (w33 hw)) (ty := .byte) (by decide)).keep Kh3 nin0)
  refine OW.init C (w23 hw) (w24 hw) (w10 hw) (w26 hw) rfl (by decide) (b5 hw a1 a4 (0 : Int32) (Nat.le_trans (Nat.le_trans Z0 Eh2.1) Kh3.1) (Nat.le_trans Z0 (Nat.le_of_eq ga1)) G5 G6 G7 rfl) d2_22 pd_2 rfl (argsL := [(.ref a4), (.int (0 : Int32))]) (rest := [(.ref a1)]) rfl rfl (W := 1) rfl (by decide) (by decide) (by decide) (by decide) (pc' := 25) rfl ?_
  intro vh8 h8 qh8
  obtain ⟨rfl, Kh8⟩ := qh8
  refine OW.retA C rfl rfl d2_25 (by decide) (by decide) ?_
  have G9 := (G5.keep Kh8)
  exact ⟨_, rfl, (Nat.le_trans (Nat.le_refl _) (Nat.le_of_eq ga1)), ((((Keep.refl h []).ext Eh2).trans Kh3 all0).trans Kh8 (allS (Or.inr (Nat.le_trans (Nat.le_refl _) (Nat.le_of_eq ga1))) all0)), G9⟩
theorem d8_0 : decode jdk_30_method_1_code 0 = .ok (.aload_n 0, 1) := by decide +kernel
theorem d8_1 : decode jdk_30_method_1_code 1 = .ok (.invokespecial 1, 3) := by decide +kernel
theorem d8_4 : decode jdk_30_method_1_code 4 = .ok (.return_, 1) := by decide +kernel
set_option maxRecDepth 65536 in
set_option maxHeartbeats 40000000 in
theorem b8 {l : Launch} {Z : State} {a0 : Array Value} (hw : HW a0 Z) (x0 : Addr) {n0 : Nat} {h : Heap} (Z0 : n0 ≤ h.size) : OM l Z (⟨"java/lang/Record", "<init>", "()V"⟩ : MethodName) jdk_30_method_1_code 1 none ⟨1, 0, 0, 12⟩ n0 h #[(.ref x0)] (fun v h' => v = none ∧ h' = h) 0 0 := by
  refine OM.of_body (ls := #[.val (.ref x0)]) (plainFor_of_name pn_2) (fun m => by first | rfl | simp [entryFrame, mkF, argsToLocals, Value.category]) ?_
  intro p e s m below meth c C
  refine OG.ow (OG.aloadN C d8_0 rfl rfl (pc' := 1) rfl) ?_
  refine OG.ow (OG.initO C (w45 hw) (w28 hw) (w29 hw) d8_1 rfl (by decide) (W := 0) rfl (by decide) (pc' := 4) rfl) ?_
  refine OW.retV C d8_4 (by decide) (by decide) ?_
  exact ⟨rfl, rfl⟩
theorem d7_0 : decode prog_2_method_1_code 0 = .ok (.aload_n 0, 1) := by decide +kernel
theorem d7_1 : decode prog_2_method_1_code 1 = .ok (.invokespecial 1, 3) := by decide +kernel
theorem d7_4 : decode prog_2_method_1_code 4 = .ok (.aload_n 0, 1) := by decide +kernel
theorem d7_5 : decode prog_2_method_1_code 5 = .ok (.lload_n 1, 1) := by decide +kernel
theorem d7_6 : decode prog_2_method_1_code 6 = .ok (.putfield 7, 3) := by decide +kernel
theorem d7_9 : decode prog_2_method_1_code 9 = .ok (.return_, 1) := by decide +kernel
set_option maxRecDepth 65536 in
set_option maxHeartbeats 40000000 in
theorem b7 {l : Launch} {Z : State} {a0 : Array Value} (hw : HW a0 Z) (x0 : Addr) (x1 : Int64) {n0 : Nat} {h : Heap} (Z0 : n0 ≤ h.size) (g0 : n0 ≤ x0) (E0 : Exa Z h x0 "com/example/quittance/quittance/Amount") (F0 : Fld Z h x0 "com/example/quittance/quittance/Amount" "cents" "J" (.long (0 : Int64))) : OM l Z (⟨"com/example/quittance/quittance/Amount", "<init>", "(J)V"⟩ : MethodName) prog_2_method_1_code 3 none ⟨2, 0, 0, 24⟩ n0 h #[(.ref x0), (.long x1)] (fun v h' => v = none ∧ Keep h h' [x0] ∧ Fld Z h' x0 "com/example/quittance/quittance/Amount" "cents" "J" (.long x1)) 0 0 := by
  refine OM.of_body (ls := #[.val (.ref x0), .val (.long x1), .second]) (plainFor_of_name pn_3) (fun m => by first | rfl | simp [entryFrame, mkF, argsToLocals, Value.category]) ?_
  intro p e s m below meth c C
  refine OG.ow (OG.aloadN C d7_0 rfl rfl (pc' := 1) rfl) ?_
  refine OG.ow (OG.init C (w40 hw) (w41 hw) (w43 hw) (w44 hw) rfl (by decide) (b8 hw x0 Z0) d7_1 pd_3 rfl (argsL := []) (rest := []) rfl rfl (W := 0) rfl (by decide) (by decide) (pc' := 4) rfl) ?_
  refine OG.ow (OG.aloadN C d7_4 rfl rfl (pc' := 5) rfl) ?_
  refine OG.ow (OG.lloadN C d7_5 rfl (pc' := 6) rfl) ?_
  refine OW.putF C (host := "") (Or.inl (w46 hw)) Via.refl F0 E0 (Or.inr ⟨(w47 hw), rfl, rfl⟩) (w35 hw) (ty := .long) (by decide) rfl rfl g0 d7_6 (pc' := 9) rfl ?_
  intro h1 Wh1
  have G2 := Fld.same Wh1 F0
  refine OW.retV C d7_9 (by decide) (by decide) ?_
  exact ⟨rfl, ((Keep.refl h [x0]).wr Wh1 (Or.inl (List.mem_of_getElem? (i := 0) rfl))), G2⟩
theorem d9_0 : decode prog_3_method_1_code 0 = .ok (.aload_n 0, 1) := by decide +kernel
theorem d9_1 : decode prog_3_method_1_code 1 = .ok (.invokespecial 1, 3) := by decide +kernel
theorem d9_4 : decode prog_3_method_1_code 4 = .ok (.aload_n 0, 1) := by decide +kernel
theorem d9_5 : decode prog_3_method_1_code 5 = .ok (.aload_n 1, 1) := by decide +kernel
theorem d9_6 : decode prog_3_method_1_code 6 = .ok (.putfield 7, 3) := by decide +kernel
theorem d9_9 : decode prog_3_method_1_code 9 = .ok (.aload_n 0, 1) := by decide +kernel
theorem d9_10 : decode prog_3_method_1_code 10 = .ok (.aload_n 2, 1) := by decide +kernel
theorem d9_11 : decode prog_3_method_1_code 11 = .ok (.putfield 13, 3) := by decide +kernel
theorem d9_14 : decode prog_3_method_1_code 14 = .ok (.aload_n 0, 1) := by decide +kernel
theorem d9_15 : decode prog_3_method_1_code 15 = .ok (.aload_n 3, 1) := by decide +kernel
theorem d9_16 : decode prog_3_method_1_code 16 = .ok (.putfield 17, 3) := by decide +kernel
theorem d9_19 : decode prog_3_method_1_code 19 = .ok (.aload_n 0, 1) := by decide +kernel
theorem d9_20 : decode prog_3_method_1_code 20 = .ok (.aload 4, 2) := by decide +kernel
theorem d9_22 : decode prog_3_method_1_code 22 = .ok (.putfield 20, 3) := by decide +kernel
theorem d9_25 : decode prog_3_method_1_code 25 = .ok (.aload_n 0, 1) := by decide +kernel
theorem d9_26 : decode prog_3_method_1_code 26 = .ok (.aload 5, 2) := by decide +kernel
theorem d9_28 : decode prog_3_method_1_code 28 = .ok (.putfield 24, 3) := by decide +kernel
theorem d9_31 : decode prog_3_method_1_code 31 = .ok (.return_, 1) := by decide +kernel
set_option maxRecDepth 65536 in
set_option maxHeartbeats 40000000 in
theorem b9 {l : Launch} {Z : State} {a0 : Array Value} (hw : HW a0 Z) (x0 : Addr) (x1 : Value) (rx1 : x1.isRef = true) (x2 : Value) (rx2 : x2.isRef = true) (x3 : Value) (rx3 : x3.isRef = true) (x4 : Value) (rx4 : x4.isRef = true) (x5 : Value) (rx5 : x5.isRef = true) {n0 : Nat} {h : Heap} (Z0 : n0 ≤ h.size) (g0 : n0 ≤ x0) (E0 : Exa Z h x0 "com/example/quittance/quittance/AuditEntry") (F0 : Fld Z h x0 "com/example/quittance/quittance/AuditEntry" "action" "Lcom/example/quittance/quittance/AuditEntry$Action;" .null) (F1 : Fld Z h x0 "com/example/quittance/quittance/AuditEntry" "document" "Ljava/lang/String;" .null) (F2 : Fld Z h x0 "com/example/quittance/quittance/AuditEntry" "invoice" "Ljava/lang/String;" .null) (F3 : Fld Z h x0 "com/example/quittance/quittance/AuditEntry" "amount" "Lcom/example/quittance/quittance/Amount;" .null) (F4 : Fld Z h x0 "com/example/quittance/quittance/AuditEntry" "reasonCode" "Ljava/lang/String;" .null) : OM l Z (⟨"com/example/quittance/quittance/AuditEntry", "<init>", "(Lcom/example/quittance/quittance/AuditEntry$Action;Ljava/lang/String;Ljava/lang/String;Lcom/example/quittance/quittance/Amount;Ljava/lang/String;)V"⟩ : MethodName) prog_3_method_1_code 6 none ⟨2, 0, 0, 24⟩ n0 h #[(.ref x0), x1, x2, x3, x4, x5] (fun v h' => v = none ∧ Keep h h' [x0] ∧ Fld Z h' x0 "com/example/quittance/quittance/AuditEntry" "action" "Lcom/example/quittance/quittance/AuditEntry$Action;" x1 ∧ Fld Z h' x0 "com/example/quittance/quittance/AuditEntry" "document" "Ljava/lang/String;" x2 ∧ Fld Z h' x0 "com/example/quittance/quittance/AuditEntry" "invoice" "Ljava/lang/String;" x3 ∧ Fld Z h' x0 "com/example/quittance/quittance/AuditEntry" "amount" "Lcom/example/quittance/quittance/Amount;" x4 ∧ Fld Z h' x0 "com/example/quittance/quittance/AuditEntry" "reasonCode" "Ljava/lang/String;" x5) 0 0 := by
  refine OM.of_body (ls := #[.val (.ref x0), .val x1, .val x2, .val x3, .val x4, .val x5]) (plainFor_of_name pn_4) (fun m => by rcases ref_cases rx1 with rfl | ⟨_, rfl⟩ <;> rcases ref_cases rx2 with rfl | ⟨_, rfl⟩ <;> rcases ref_cases rx3 with rfl | ⟨_, rfl⟩ <;> rcases ref_cases rx4 with rfl | ⟨_, rfl⟩ <;> rcases ref_cases rx5 with rfl | ⟨_, rfl⟩ <;> first | rfl | simp [entryFrame, mkF, argsToLocals, Value.category]) ?_
  intro p e s m below meth c C
  refine OG.ow (OG.aloadN C d9_0 rfl rfl (pc' := 1) rfl) ?_
  refine OG.ow (OG.init C (w54 hw) (w41 hw) (w43 hw) (w44 hw) rfl (by decide) (b8 hw x0 Z0) d9_1 pd_3 rfl (argsL := []) (rest := []) rfl rfl (W := 0) rfl (by decide) (by decide) (pc' := 4) rfl) ?_
  refine OG.ow (OG.aloadN C d9_4 rfl rfl (pc' := 5) rfl) ?_
  refine OG.ow (OG.aloadN C d9_5 rfl rx1 (pc' := 6) rfl) ?_
  refine OW.putF C (host := "") (Or.inl (w55 hw)) Via.refl F0 E0 (Or.inr ⟨(w56 hw), rfl, rfl⟩) (w49 hw) (ty := (.object "com/example/quittance/quittance/AuditEntry$Action")) (by decide) (own_nr rx1 rfl).1 (own_nr rx1 rfl).2 g0 d9_6 (pc' := 9) rfl ?_
  intro h1 Wh1
  have G2 := Fld.same Wh1 F0
  refine OG.ow (OG.aloadN C d9_9 rfl rfl (pc' := 10) rfl) ?_
  refine OG.ow (OG.aloadN C d9_10 rfl rx2 (pc' := 11) rfl) ?_
  have G3 := (Fld.other Wh1 F1 (Or.inr (slot_ne (Or.inr (w58 hw)) (Or.inr (w56 hw)) (by decide) (t := (.object "java/lang/String")) (t' := (.object "com/example/quittance/quittance/AuditEntry$Action")) (by decide) (by decide))))
  have G4 := (Exa.wr Wh1 E0)
  refine OW.putF C (host := "") (Or.inl (w57 hw)) Via.refl G3 G4 (Or.inr ⟨(w58 hw), rfl, rfl⟩) (w49 hw) (ty := (.object "java/lang/String")) (by decide) (own_nr rx2 rfl).1 (own_nr rx2 rfl).2 g0 d9_11 (pc' := 14) rfl ?_
  intro h5 Wh5
  have G6 := Fld.same Wh5 G3
  refine OG.ow (OG.aloadN C d9_14 rfl rfl (pc' := 15) rfl) ?_
  refine OG.ow (OG.aloadN C d9_15 rfl rx3 (pc' := 16) rfl) ?_
  have G7 := (Fld.other Wh5 (Fld.other Wh1 F2 (Or.inr (slot_ne (Or.inr (w60 hw)) (Or.inr (w56 hw)) (by decide) (t := (.object "java/lang/String")) (t' := (.object "com/example/quittance/quittance/AuditEntry$Action")) (by decide) (by decide)))) (Or.inr (slot_ne (Or.inr (w60 hw)) (Or.inr (w58 hw)) (by decide) (t := (.object "java/lang/String")) (t' := (.object "java/lang/String")) (by decide) (by decide))))
  have G8 := (Exa.wr Wh5 G4)
  refine OW.putF C (host := "") (Or.inl (w59 hw)) Via.refl G7 G8 (Or.inr ⟨(w60 hw), rfl, rfl⟩) (w49 hw) (ty := (.object "java/lang/String")) (by decide) (own_nr rx3 rfl).1 (own_nr rx3 rfl).2 g0 d9_16 (pc' := 19) rfl ?_
  intro h9 Wh9
  have G10 := Fld.same Wh9 G7
  refine OG.ow (OG.aloadN C d9_19 rfl rfl (pc' := 20) rfl) ?_
  refine OG.ow (OG.aload C d9_20 rfl rx4 (pc' := 22) rfl) ?_
  have G11 := (Fld.other Wh9 (Fld.other Wh5 (Fld.other Wh1 F3 (Or.inr (slot_ne (Or.inr (w62 hw)) (Or.inr (w56 hw)) (by decide) (t := (.object "com/example/quittance/quittance/Amount")) (t' := (.object "com/example/quittance/quittance/AuditEntry$Action")) (by decide) (by decide)))) (Or.inr (slot_ne (Or.inr (w62 hw)) (Or.inr (w58 hw)) (by decide) (t := (.object "com/example/quittance/quittance/Amount")) (t' := (.object "java/lang/String")) (by decide) (by decide)))) (Or.inr (slot_ne (Or.inr (w62 hw)) (Or.inr (w60 hw)) (by decide) (t := (.object "com/example/quittance/quittance/Amount")) (t' := (.object "java/lang/String")) (by decide) (by decide))))
  have G12 := (Exa.wr Wh9 G8)
  refine OW.putF C (host := "") (Or.inl (w61 hw)) Via.refl G11 G12 (Or.inr ⟨(w62 hw), rfl, rfl⟩) (w49 hw) (ty := (.object "com/example/quittance/quittance/Amount")) (by decide) (own_nr rx4 rfl).1 (own_nr rx4 rfl).2 g0 d9_22 (pc' := 25) rfl ?_
  intro h13 Wh13
  have G14 := Fld.same Wh13 G11
  refine OG.ow (OG.aloadN C d9_25 rfl rfl (pc' := 26) rfl) ?_
  refine OG.ow (OG.aload C d9_26 rfl rx5 (pc' := 28) rfl) ?_
  have G15 := (Fld.other Wh13 (Fld.other Wh9 (Fld.other Wh5 (Fld.other Wh1 F4 (Or.inr (slot_ne (Or.inr (w64 hw)) (Or.inr (w56 hw)) (by decide) (t := (.object "java/lang/String")) (t' := (.object "com/example/quittance/quittance/AuditEntry$Action")) (by decide) (by decide)))) (Or.inr (slot_ne (Or.inr (w64 hw)) (Or.inr (w58 hw)) (by decide) (t := (.object "java/lang/String")) (t' := (.object "java/lang/String")) (by decide) (by decide)))) (Or.inr (slot_ne (Or.inr (w64 hw)) (Or.inr (w60 hw)) (by decide) (t := (.object "java/lang/String")) (t' := (.object "java/lang/String")) (by decide) (by decide)))) (Or.inr (slot_ne (Or.inr (w64 hw)) (Or.inr (w62 hw)) (by decide) (t := (.object "java/lang/String")) (t' := (.object "com/example/quittance/quittance/Amount")) (by decide) (by decide))))
  have G16 := (Exa.wr Wh13 G12)
  refine OW.putF C (host := "") (Or.inl (w63 hw)) Via.refl G15 G16 (Or.inr ⟨(w64 hw), rfl, rfl⟩) (w49 hw) (ty := (.object "java/lang/String")) (by decide) (own_nr rx5 rfl).1 (own_nr rx5 rfl).2 g0 d9_28 (pc' := 31) rfl ?_
  intro h17 Wh17
  have G18 := Fld.same Wh17 G15
  refine OW.retV C d9_31 (by decide) (by decide) ?_
  have G19 := (Fld.other Wh17 (Fld.other Wh13 (Fld.other Wh9 (Fld.other Wh5 G2 (Or.inr (slot_ne (Or.inr (w56 hw)) (Or.inr (w58 hw)) (by decide) (t := (.object "com/example/quittance/quittance/AuditEntry$Action")) (t' := (.object "java/lang/String")) (by decide) (by decide)))) (Or.inr (slot_ne (Or.inr (w56 hw)) (Or.inr (w60 hw)) (by decide) (t := (.object "com/example/quittance/quittance/AuditEntry$Action")) (t' := (.object "java/lang/String")) (by decide) (by decide)))) (Or.inr (slot_ne (Or.inr (w56 hw)) (Or.inr (w62 hw)) (by decide) (t := (.object "com/example/quittance/quittance/AuditEntry$Action")) (t' := (.object "com/example/quittance/quittance/Amount")) (by decide) (by decide)))) (Or.inr (slot_ne (Or.inr (w56 hw)) (Or.inr (w64 hw)) (by decide) (t := (.object "com/example/quittance/quittance/AuditEntry$Action")) (t' := (.object "java/lang/String")) (by decide) (by decide))))
  have G20 := (Fld.other Wh17 (Fld.other Wh13 (Fld.other Wh9 G6 (Or.inr (slot_ne (Or.inr (w58 hw)) (Or.inr (w60 hw)) (by decide) (t := (.object "java/lang/String")) (t' := (.object "java/lang/String")) (by decide) (by decide)))) (Or.inr (slot_ne (Or.inr (w58 hw)) (Or.inr (w62 hw)) (by decide) (t := (.object "java/lang/String")) (t' := (.object "com/example/quittance/quittance/Amount")) (by decide) (by decide)))) (Or.inr (slot_ne (Or.inr (w58 hw)) (Or.inr (w64 hw)) (by decide) (t := (.object "java/lang/String")) (t' := (.object "java/lang/String")) (by decide) (by decide))))
  have G21 := (Fld.other Wh17 (Fld.other Wh13 G10 (Or.inr (slot_ne (Or.inr (w60 hw)) (Or.inr (w62 hw)) (by decide) (t := (.object "java/lang/String")) (t' := (.object "com/example/quittance/quittance/Amount")) (by decide) (by decide)))) (Or.inr (slot_ne (Or.inr (w60 hw)) (Or.inr (w64 hw)) (by decide) (t := (.object "java/lang/String")) (t' := (.object "java/lang/String")) (by decide) (by decide))))
  have G22 := (Fld.other Wh17 G14 (Or.inr (slot_ne (Or.inr (w62 hw)) (Or.inr (w64 hw)) (by decide) (t := (.object "com/example/quittance/quittance/Amount")) (t' := (.object "java/lang/String")) (by decide) (by decide))))
  exact ⟨rfl, ((((((Keep.refl h [x0]).wr Wh1 (Or.inl (List.mem_of_getElem? (i := 0) rfl))).wr Wh5 (Or.inl (List.mem_of_getElem? (i := 0) rfl))).wr Wh9 (Or.inl (List.mem_of_getElem? (i := 0) rfl))).wr Wh13 (Or.inl (List.mem_of_getElem? (i := 0) rfl))).wr Wh17 (Or.inl (List.mem_of_getElem? (i := 0) rfl))), G19, G20, G21, G22, G18⟩
theorem d11_0 : decode prog_3_method_9_code 0 = .ok (.aload_n 0, 1) := by decide +kernel
theorem d11_1 : decode prog_3_method_9_code 1 = .ok (.getfield 7, 3) := by decide +kernel
theorem d11_4 : decode prog_3_method_9_code 4 = .ok (.areturn, 1) := by decide +kernel
set_option maxRecDepth 65536 in
set_option maxHeartbeats 40000000 in
theorem b11 {l : Launch} {Z : State} {a0 : Array Value} (hw : HW a0 Z) (x0 : Addr) {q : Value} (rq : q.isRef = true) {n0 : Nat} {h : Heap} (Z0 : n0 ≤ h.size) (F0 : Fld Z h x0 "com/example/quittance/quittance/AuditEntry" "action" "Lcom/example/quittance/quittance/AuditEntry$Action;" q) : OM l Z (⟨"com/example/quittance/quittance/AuditEntry", "action", "()Lcom/example/quittance/quittance/AuditEntry$Action;"⟩ : MethodName) prog_3_method_9_code 1 (some (.object "com/example/quittance/quittance/AuditEntry$Action")) ⟨0, 0, 0, 0⟩ n0 h #[(.ref x0)] (fun v h' => v = some q ∧ h' = h) 0 0 := by
  refine OM.of_body (ls := #[.val (.ref x0)]) (plainFor_of_name pn_4) (fun m => by first | rfl | simp [entryFrame, mkF, argsToLocals, Value.category]) ?_
  intro p e s m below meth c C
  refine OG.ow (OG.aloadN C d11_0 rfl rfl (pc' := 1) rfl) ?_
  refine OG.ow (OG.getF C (host := "") (Or.inl (w55 hw)) Via.refl F0 d11_1 (pc' := 4) rfl) ?_
  refine OW.retA C rfl rq d11_4 (by decide) (by decide) ?_
  exact ⟨rfl, rfl⟩
theorem d12_0 : decode prog_3_method_10_code 0 = .ok (.aload_n 0, 1) := by decide +kernel
theorem d12_1 : decode prog_3_method_10_code 1 = .ok (.getfield 13, 3) := by decide +kernel
theorem d12_4 : decode prog_3_method_10_code 4 = .ok (.areturn, 1) := by decide +kernel
set_option maxRecDepth 65536 in
set_option maxHeartbeats 40000000 in
theorem b12 {l : Launch} {Z : State} {a0 : Array Value} (hw : HW a0 Z) (x0 : Addr) {q : Value} (rq : q.isRef = true) {n0 : Nat} {h : Heap} (Z0 : n0 ≤ h.size) (F0 : Fld Z h x0 "com/example/quittance/quittance/AuditEntry" "document" "Ljava/lang/String;" q) : OM l Z (⟨"com/example/quittance/quittance/AuditEntry", "document", "()Ljava/lang/String;"⟩ : MethodName) prog_3_method_10_code 1 (some (.object "java/lang/String")) ⟨0, 0, 0, 0⟩ n0 h #[(.ref x0)] (fun v h' => v = some q ∧ h' = h) 0 0 := by
  refine OM.of_body (ls := #[.val (.ref x0)]) (plainFor_of_name pn_4) (fun m => by first | rfl | simp [entryFrame, mkF, argsToLocals, Value.category]) ?_
  intro p e s m below meth c C
  refine OG.ow (OG.aloadN C d12_0 rfl rfl (pc' := 1) rfl) ?_
  refine OG.ow (OG.getF C (host := "") (Or.inl (w57 hw)) Via.refl F0 d12_1 (pc' := 4) rfl) ?_
  refine OW.retA C rfl rq d12_4 (by decide) (by decide) ?_
  exact ⟨rfl, rfl⟩
theorem d13_0 : decode prog_3_method_11_code 0 = .ok (.aload_n 0, 1) := by decide +kernel
theorem d13_1 : decode prog_3_method_11_code 1 = .ok (.getfield 17, 3) := by decide +kernel
theorem d13_4 : decode prog_3_method_11_code 4 = .ok (.areturn, 1) := by decide +kernel
set_option maxRecDepth 65536 in
set_option maxHeartbeats 40000000 in
theorem b13 {l : Launch} {Z : State} {a0 : Array Value} (hw : HW a0 Z) (x0 : Addr) {q : Value} (rq : q.isRef = true) {n0 : Nat} {h : Heap} (Z0 : n0 ≤ h.size) (F0 : Fld Z h x0 "com/example/quittance/quittance/AuditEntry" "invoice" "Ljava/lang/String;" q) : OM l Z (⟨"com/example/quittance/quittance/AuditEntry", "invoice", "()Ljava/lang/String;"⟩ : MethodName) prog_3_method_11_code 1 (some (.object "java/lang/String")) ⟨0, 0, 0, 0⟩ n0 h #[(.ref x0)] (fun v h' => v = some q ∧ h' = h) 0 0 := by
  refine OM.of_body (ls := #[.val (.ref x0)]) (plainFor_of_name pn_4) (fun m => by first | rfl | simp [entryFrame, mkF, argsToLocals, Value.category]) ?_
  intro p e s m below meth c C
  refine OG.ow (OG.aloadN C d13_0 rfl rfl (pc' := 1) rfl) ?_
  refine OG.ow (OG.getF C (host := "") (Or.inl (w59 hw)) Via.refl F0 d13_1 (pc' := 4) rfl) ?_
  refine OW.retA C rfl rq d13_4 (by decide) (by decide) ?_
  exact ⟨rfl, rfl⟩
theorem d14_0 : decode prog_3_method_12_code 0 = .ok (.aload_n 0, 1) := by decide +kernel
theorem d14_1 : decode prog_3_method_12_code 1 = .ok (.getfield 20, 3) := by decide +kernel
theorem d14_4 : decode prog_3_method_12_code 4 = .ok (.areturn, 1) := by decide +kernel
set_option maxRecDepth 65536 in
set_option maxHeartbeats 40000000 in
theorem b14 {l : Launch} {Z : State} {a0 : Array Value} (hw : HW a0 Z) (x0 : Addr) {q : Value} (rq : q.isRef = true) {n0 : Nat} {h : Heap} (Z0 : n0 ≤ h.size) (F0 : Fld Z h x0 "com/example/quittance/quittance/AuditEntry" "amount" "Lcom/example/quittance/quittance/Amount;" q) : OM l Z (⟨"com/example/quittance/quittance/AuditEntry", "amount", "()Lcom/example/quittance/quittance/Amount;"⟩ : MethodName) prog_3_method_12_code 1 (some (.object "com/example/quittance/quittance/Amount")) ⟨0, 0, 0, 0⟩ n0 h #[(.ref x0)] (fun v h' => v = some q ∧ h' = h) 0 0 := by
  refine OM.of_body (ls := #[.val (.ref x0)]) (plainFor_of_name pn_4) (fun m => by first | rfl | simp [entryFrame, mkF, argsToLocals, Value.category]) ?_
  intro p e s m below meth c C
  refine OG.ow (OG.aloadN C d14_0 rfl rfl (pc' := 1) rfl) ?_
  refine OG.ow (OG.getF C (host := "") (Or.inl (w61 hw)) Via.refl F0 d14_1 (pc' := 4) rfl) ?_
  refine OW.retA C rfl rq d14_4 (by decide) (by decide) ?_
  exact ⟨rfl, rfl⟩
theorem d15_0 : decode prog_3_method_13_code 0 = .ok (.aload_n 0, 1) := by decide +kernel
theorem d15_1 : decode prog_3_method_13_code 1 = .ok (.getfield 24, 3) := by decide +kernel
theorem d15_4 : decode prog_3_method_13_code 4 = .ok (.areturn, 1) := by decide +kernel
set_option maxRecDepth 65536 in
set_option maxHeartbeats 40000000 in
theorem b15 {l : Launch} {Z : State} {a0 : Array Value} (hw : HW a0 Z) (x0 : Addr) {q : Value} (rq : q.isRef = true) {n0 : Nat} {h : Heap} (Z0 : n0 ≤ h.size) (F0 : Fld Z h x0 "com/example/quittance/quittance/AuditEntry" "reasonCode" "Ljava/lang/String;" q) : OM l Z (⟨"com/example/quittance/quittance/AuditEntry", "reasonCode", "()Ljava/lang/String;"⟩ : MethodName) prog_3_method_13_code 1 (some (.object "java/lang/String")) ⟨0, 0, 0, 0⟩ n0 h #[(.ref x0)] (fun v h' => v = some q ∧ h' = h) 0 0 := by
  refine OM.of_body (ls := #[.val (.ref x0)]) (plainFor_of_name pn_4) (fun m => by first | rfl | simp [entryFrame, mkF, argsToLocals, Value.category]) ?_
  intro p e s m below meth c C
  refine OG.ow (OG.aloadN C d15_0 rfl rfl (pc' := 1) rfl) ?_
  refine OG.ow (OG.getF C (host := "") (Or.inl (w63 hw)) Via.refl F0 d15_1 (pc' := 4) rfl) ?_
  refine OW.retA C rfl rq d15_4 (by decide) (by decide) ?_
  exact ⟨rfl, rfl⟩
theorem d10_0 : decode prog_3_method_4_code 0 = .ok (.new 8, 3) := by decide +kernel
theorem d10_3 : decode prog_3_method_4_code 3 = .ok (.dup, 1) := by decide +kernel
theorem d10_4 : decode prog_3_method_4_code 4 = .ok (.aload_n 0, 1) := by decide +kernel
theorem d10_5 : decode prog_3_method_4_code 5 = .ok (.getfield 7, 3) := by decide +kernel
theorem d10_8 : decode prog_3_method_4_code 8 = .ok (.aload_n 0, 1) := by decide +kernel
theorem d10_9 : decode prog_3_method_4_code 9 = .ok (.getfield 13, 3) := by decide +kernel
theorem d10_12 : decode prog_3_method_4_code 12 = .ok (.aload_n 0, 1) := by decide +kernel
theorem d10_13 : decode prog_3_method_4_code 13 = .ok (.getfield 17, 3) := by decide +kernel
theorem d10_16 : decode prog_3_method_4_code 16 = .ok (.aload_n 1, 1) := by decide +kernel
theorem d10_17 : decode prog_3_method_4_code 17 = .ok (.aload_n 0, 1) := by decide +kernel
theorem d10_18 : decode prog_3_method_4_code 18 = .ok (.getfield 24, 3) := by decide +kernel
theorem d10_21 : decode prog_3_method_4_code 21 = .ok (.invokespecial 27, 3) := by decide +kernel
theorem d10_24 : decode prog_3_method_4_code 24 = .ok (.areturn, 1) := by decide +kernel
set_option maxRecDepth 65536 in
set_option maxHeartbeats 40000000 in
theorem b10 {l : Launch} {Z : State} {a0 : Array Value} (hw : HW a0 Z) (x0 : Addr) (x1 : Value) (rx1 : x1.isRef = true) {q0 q1 q2 q3 q4 : Value} (rq0 : q0.isRef = true) (rq1 : q1.isRef = true) (rq2 : q2.isRef = true) (rq3 : q3.isRef = true) (rq4 : q4.isRef = true) {n0 : Nat} {h : Heap} (Z0 : n0 ≤ h.size) (F0 : Fld Z h x0 "com/example/quittance/quittance/AuditEntry" "action" "Lcom/example/quittance/quittance/AuditEntry$Action;" q0) (F1 : Fld Z h x0 "com/example/quittance/quittance/AuditEntry" "document" "Ljava/lang/String;" q1) (F2 : Fld Z h x0 "com/example/quittance/quittance/AuditEntry" "invoice" "Ljava/lang/String;" q2) (F3 : Fld Z h x0 "com/example/quittance/quittance/AuditEntry" "amount" "Lcom/example/quittance/quittance/Amount;" q3) (F4 : Fld Z h x0 "com/example/quittance/quittance/AuditEntry" "reasonCode" "Ljava/lang/String;" q4) : OM l Z (⟨"com/example/quittance/quittance/AuditEntry", "withAmount", "(Lcom/example/quittance/quittance/Amount;)Lcom/example/quittance/quittance/AuditEntry;"⟩ : MethodName) prog_3_method_4_code 2 (some (.object "com/example/quittance/quittance/AuditEntry")) ⟨3, 1, 5, 42⟩ n0 h #[(.ref x0), x1] (fun v h' => ∃ a : Addr, v = some (.ref a) ∧ h.size ≤ a ∧ Keep h h' [] ∧ Exa Z h' a "com/example/quittance/quittance/AuditEntry" ∧ Fld Z h' a "com/example/quittance/quittance/AuditEntry" "action" "Lcom/example/quittance/quittance/AuditEntry$Action;" q0 ∧ Fld Z h' a "com/example/quittance/quittance/AuditEntry" "document" "Ljava/lang/String;" q1 ∧ Fld Z h' a "com/example/quittance/quittance/AuditEntry" "invoice" "Ljava/lang/String;" q2 ∧ Fld Z h' a "com/example/quittance/quittance/AuditEntry" "amount" "Lcom/example/quittance/quittance/Amount;" x1 ∧ Fld Z h' a "com/example/quittance/quittance/AuditEntry" "reasonCode" "Ljava/lang/String;" q4) 1 5 := by
  refine OM.of_body (ls := #[.val (.ref x0), .val x1]) (plainFor_of_name pn_4) (fun m => by rcases ref_cases rx1 with rfl | ⟨_, rfl⟩ <;> first | rfl | simp [entryFrame, mkF, argsToLocals, Value.category]) ?_
  intro p e s m below meth c C
  refine OW.newO C (w70 hw) (w49 hw) (w50 hw) d10_0 (by decide) (by decide) (pc' := 3) rfl ?_
  intro a1 h2 ga1 Eh2 Aa1 Da1
  refine OG.ow (OG.dup C d10_3 rfl (pc' := 4) rfl) ?_
  refine OG.ow (OG.aloadN C d10_4 rfl rfl (pc' := 5) rfl) ?_
  have G3 := (Fld.ext Eh2 F0)
  refine OG.ow (OG.getF C (host := "") (Or.inl (w55 hw)) Via.refl G3 d10_5 (pc' := 8) rfl) ?_
  refine OG.ow (OG.aloadN C d10_8 rfl rfl (pc' := 9) rfl) ?_
  have G4 := (Fld.ext Eh2 F1)
  refine OG.ow (OG.getF C (host := "") (Or.inl (w57 hw)) Via.refl G4 d10_9 (pc' := 12) rfl) ?_
  refine OG.ow (OG.aloadN C d10_12 rfl rfl (pc' := 13) rfl) ?_
  have G5 := (Fld.ext Eh2 F2)
  refine OG.ow (OG.getF C (host := "") (Or.inl (w59 hw)) Via.refl G5 d10_13 (pc' := 16) rfl) ?_
  refine OG.ow (OG.aloadN C d10_16 rfl rx1 (pc' := 17) rfl) ?_
  refine OG.ow (OG.aloadN C d10_17 rfl rfl (pc' := 18) rfl) ?_
  have G6 := (Fld.ext Eh2 F4)
  refine OG.ow (OG.getF C (host := "") (Or.inl (w63 hw)) Via.refl G6 d10_18 (pc' := 21) rfl) ?_
  refine OW.init C (w71 hw) (w52 hw) (w50 hw) (w53 hw) rfl (by decide) (b9 hw a1 q0 rq0 q1 rq1 q2 rq2 x1 rx1 q4 rq4 (Nat.le_trans Z0 Eh2.1) (Nat.le_trans Z0 (Nat.le_of_eq ga1)) Aa1 (show Fld Z h2 a1 "com/example/quittance/quittance/AuditEntry" "action" "Lcom/example/quittance/quittance/AuditEntry$Action;" .null from Da1 (Or.inr (w56 hw)) (ty := (.object "com/example/quittance/quittance/AuditEntry$Action")) (by decide)) (show Fld Z h2 a1 "com/example/quittance/quittance/AuditEntry" "document" "Ljava/lang/String;" .null from Da1 (Or.inr (w58 hw)) (ty := (.object "java/lang/String")) (by decide)) (show Fld Z h2 a1 "com/example/quittance/quittance/AuditEntry" "invoice" "Ljava/lang/String;" .null from Da1 (Or.inr (w60 hw)) (ty := (.object "java/lang/String")) (by decide)) (show Fld Z h2 a1 "com/example/quittance/quittance/AuditEntry" "amount" "Lcom/example/quittance/quittance/Amount;" .null from Da1 (Or.inr (w62 hw)) (ty := (.object "com/example/quittance/quittance/Amount")) (by decide)) (show Fld Z h2 a1 "com/example/quittance/quittance/AuditEntry" "reasonCode" "Ljava/lang/String;" .null from Da1 (Or.inr (w64 hw)) (ty := (.object "java/lang/String")) (by decide))) d10_21 pd_4 rfl (argsL := [q0, q1, q2, x1, q4]) (rest := [(.ref a1)]) rfl rfl (W := 1) rfl (by decide) (by decide) (by decide) (by decide) (pc' := 24) rfl ?_
  intro vh7 h7 qh7
  obtain ⟨rfl, Kh7, Fh7_0, Fh7_1, Fh7_2, Fh7_3, Fh7_4⟩ := qh7
  refine OW.retA C rfl rfl d10_24 (by decide) (by decide) ?_
  have G8 := (Aa1.keep Kh7)
  exact ⟨_, rfl, (Nat.le_trans (Nat.le_refl _) (Nat.le_of_eq ga1)), (((Keep.refl h []).ext Eh2).trans Kh7 (allS (Or.inr (Nat.le_trans (Nat.le_refl _) (Nat.le_of_eq ga1))) all0)), G8, Fh7_0, Fh7_1, Fh7_2, Fh7_3, Fh7_4⟩
theorem d1_0 : decode method_3_code 0 = .ok (.iload_n 0, 1) := by decide +kernel
theorem d1_1 : decode method_3_code 1 = .ok (.ifCond .ne 7, 3) := by decide +kernel
theorem d1_4 : decode method_3_code 4 = .ok (.getstatic 51, 3) := by decide +kernel
theorem d1_7 : decode method_3_code 7 = .ok (.areturn, 1) := by decide +kernel
theorem d1_8 : decode method_3_code 8 = .ok (.iload_n 0, 1) := by decide +kernel
theorem d1_9 : decode method_3_code 9 = .ok (.iconst 1, 1) := by decide +kernel
theorem d1_10 : decode method_3_code 10 = .ok (.if_icmp .ne 7, 3) := by decide +kernel
theorem d1_13 : decode method_3_code 13 = .ok (.getstatic 57, 3) := by decide +kernel
theorem d1_16 : decode method_3_code 16 = .ok (.areturn, 1) := by decide +kernel
theorem d1_17 : decode method_3_code 17 = .ok (.iload_n 0, 1) := by decide +kernel
theorem d1_18 : decode method_3_code 18 = .ok (.iconst 2, 1) := by decide +kernel
theorem d1_19 : decode method_3_code 19 = .ok (.if_icmp .ne 7, 3) := by decide +kernel
theorem d1_22 : decode method_3_code 22 = .ok (.getstatic 60, 3) := by decide +kernel
theorem d1_25 : decode method_3_code 25 = .ok (.areturn, 1) := by decide +kernel
theorem d1_26 : decode method_3_code 26 = .ok (.iload_n 0, 1) := by decide +kernel
theorem d1_27 : decode method_3_code 27 = .ok (.iconst 3, 1) := by decide +kernel
theorem d1_28 : decode method_3_code 28 = .ok (.if_icmp .ne 7, 3) := by decide +kernel
theorem d1_31 : decode method_3_code 31 = .ok (.getstatic 63, 3) := by decide +kernel
theorem d1_34 : decode method_3_code 34 = .ok (.areturn, 1) := by decide +kernel
theorem d1_35 : decode method_3_code 35 = .ok (.iload_n 0, 1) := by decide +kernel
theorem d1_36 : decode method_3_code 36 = .ok (.iconst 4, 1) := by decide +kernel
theorem d1_37 : decode method_3_code 37 = .ok (.if_icmp .ne 7, 3) := by decide +kernel
theorem d1_40 : decode method_3_code 40 = .ok (.getstatic 66, 3) := by decide +kernel
theorem d1_43 : decode method_3_code 43 = .ok (.areturn, 1) := by decide +kernel
theorem d1_44 : decode method_3_code 44 = .ok (.iload_n 0, 1) := by decide +kernel
theorem d1_45 : decode method_3_code 45 = .ok (.iconst 5, 1) := by decide +kernel
theorem d1_46 : decode method_3_code 46 = .ok (.if_icmp .ne 7, 3) := by decide +kernel
theorem d1_49 : decode method_3_code 49 = .ok (.getstatic 69, 3) := by decide +kernel
theorem d1_52 : decode method_3_code 52 = .ok (.areturn, 1) := by decide +kernel
theorem d1_53 : decode method_3_code 53 = .ok (.iload_n 0, 1) := by decide +kernel
theorem d1_54 : decode method_3_code 54 = .ok (.bipush 6, 2) := by decide +kernel
theorem d1_56 : decode method_3_code 56 = .ok (.if_icmp .ne 7, 3) := by decide +kernel
theorem d1_59 : decode method_3_code 59 = .ok (.getstatic 72, 3) := by decide +kernel
theorem d1_62 : decode method_3_code 62 = .ok (.areturn, 1) := by decide +kernel
theorem d1_63 : decode method_3_code 63 = .ok (.iload_n 0, 1) := by decide +kernel
theorem d1_64 : decode method_3_code 64 = .ok (.bipush 7, 2) := by decide +kernel
theorem d1_66 : decode method_3_code 66 = .ok (.if_icmp .ne 7, 3) := by decide +kernel
theorem d1_69 : decode method_3_code 69 = .ok (.getstatic 75, 3) := by decide +kernel
theorem d1_72 : decode method_3_code 72 = .ok (.areturn, 1) := by decide +kernel
theorem d1_73 : decode method_3_code 73 = .ok (.iload_n 0, 1) := by decide +kernel
theorem d1_74 : decode method_3_code 74 = .ok (.bipush 8, 2) := by decide +kernel
theorem d1_76 : decode method_3_code 76 = .ok (.if_icmp .ne 7, 3) := by decide +kernel
theorem d1_79 : decode method_3_code 79 = .ok (.getstatic 78, 3) := by decide +kernel
theorem d1_82 : decode method_3_code 82 = .ok (.areturn, 1) := by decide +kernel
theorem d1_83 : decode method_3_code 83 = .ok (.iload_n 0, 1) := by decide +kernel
theorem d1_84 : decode method_3_code 84 = .ok (.bipush 9, 2) := by decide +kernel
theorem d1_86 : decode method_3_code 86 = .ok (.if_icmp .ne 7, 3) := by decide +kernel
theorem d1_89 : decode method_3_code 89 = .ok (.getstatic 81, 3) := by decide +kernel
theorem d1_92 : decode method_3_code 92 = .ok (.areturn, 1) := by decide +kernel
theorem d1_93 : decode method_3_code 93 = .ok (.iload_n 0, 1) := by decide +kernel
theorem d1_94 : decode method_3_code 94 = .ok (.bipush 10, 2) := by decide +kernel
theorem d1_96 : decode method_3_code 96 = .ok (.if_icmp .ne 7, 3) := by decide +kernel
theorem d1_99 : decode method_3_code 99 = .ok (.getstatic 84, 3) := by decide +kernel
theorem d1_102 : decode method_3_code 102 = .ok (.areturn, 1) := by decide +kernel
theorem d1_103 : decode method_3_code 103 = .ok (.iload_n 0, 1) := by decide +kernel
theorem d1_104 : decode method_3_code 104 = .ok (.bipush 11, 2) := by decide +kernel
theorem d1_106 : decode method_3_code 106 = .ok (.if_icmp .ne 7, 3) := by decide +kernel
theorem d1_109 : decode method_3_code 109 = .ok (.getstatic 87, 3) := by decide +kernel
theorem d1_112 : decode method_3_code 112 = .ok (.areturn, 1) := by decide +kernel
theorem d1_113 : decode method_3_code 113 = .ok (.iload_n 0, 1) := by decide +kernel
theorem d1_114 : decode method_3_code 114 = .ok (.bipush 12, 2) := by decide +kernel
theorem d1_116 : decode method_3_code 116 = .ok (.if_icmp .ne 7, 3) := by decide +kernel
theorem d1_119 : decode method_3_code 119 = .ok (.getstatic 90, 3) := by decide +kernel
theorem d1_122 : decode method_3_code 122 = .ok (.areturn, 1) := by decide +kernel
theorem d1_123 : decode method_3_code 123 = .ok (.getstatic 93, 3) := by decide +kernel
theorem d1_126 : decode method_3_code 126 = .ok (.areturn, 1) := by decide +kernel
def F1 (x0 : Int32) (s0 : Addr) (s1 : Addr) (s2 : Addr) (s3 : Addr) (s4 : Addr) (s5 : Addr) (s6 : Addr) (s7 : Addr) (s8 : Addr) (s9 : Addr) (s10 : Addr) (s11 : Addr) (s12 : Addr) (s13 : Addr) : Addr := if x0 = (0 : Int32) then (s0) else (if x0 = (1 : Int32) then (s1) else (if x0 = (2 : Int32) then (s10) else (if x0 = (3 : Int32) then (s7) else (if x0 = (4 : Int32) then (s12) else (if x0 = (5 : Int32) then (s9) else (if x0 = (6 : Int32) then (s4) else (if x0 = (7 : Int32) then (s2) else (if x0 = (8 : Int32) then (s6) else (if x0 = (9 : Int32) then (s13) else (if x0 = (10 : Int32) then (s11) else (if x0 = (11 : Int32) then (s8) else (if x0 = (12 : Int32) then (s5) else (s3)))))))))))))
set_option maxRecDepth 65536 in
set_option maxHeartbeats 40000000 in
theorem b1 {l : Launch} {Z : State} {a0 : Array Value} (hw : HW a0 Z) (x0 : Int32) {n0 : Nat} {h : Heap} {s0 s1 s2 s3 s4 s5 s6 s7 s8 s9 s10 s11 s12 s13 : Addr} (S0 : Sta Z h "com/example/quittance/quittance/AuditEntry$Action" "REASON_CODE_SET" "Lcom/example/quittance/quittance/AuditEntry$Action;" (.ref s0)) (S1 : Sta Z h "com/example/quittance/quittance/AuditEntry$Action" "CUSTOMER_CREATED" "Lcom/example/quittance/quittance/AuditEntry$Action;" (.ref s1)) (S2 : Sta Z h "com/example/quittance/quittance/AuditEntry$Action" "PAYMENT_APPLICATION_REVERSED" "Lcom/example/quittance/quittance/AuditEntry$Action;" (.ref s2)) (S3 : Sta Z h "com/example/quittance/quittance/AuditEntry$Action" "CREDIT_NOTE_VOIDED" "Lcom/example/quittance/quittance/AuditEntry$Action;" (.ref s3)) (S4 : Sta Z h "com/example/quittance/quittance/AuditEntry$Action" "PAYMENT_APPLIED" "Lcom/example/quittance/quittance/AuditEntry$Action;" (.ref s4)) (S5 : Sta Z h "com/example/quittance/quittance/AuditEntry$Action" "CREDIT_REFUNDED" "Lcom/example/quittance/quittance/AuditEntry$Action;" (.ref s5)) (S6 : Sta Z h "com/example/quittance/quittance/AuditEntry$Action" "CUSTOMER_CREDIT_CREATED" "Lcom/example/quittance/quittance/AuditEntry$Action;" (.ref s6)) (S7 : Sta Z h "com/example/quittance/quittance/AuditEntry$Action" "INVOICE_POSTED" "Lcom/example/quittance/quittance/AuditEntry$Action;" (.ref s7)) (S8 : Sta Z h "com/example/quittance/quittance/AuditEntry$Action" "CREDIT_ALLOCATED" "Lcom/example/quittance/quittance/AuditEntry$Action;" (.ref s8)) (S9 : Sta Z h "com/example/quittance/quittance/AuditEntry$Action" "PAYMENT_RECORDED" "Lcom/example/quittance/quittance/AuditEntry$Action;" (.ref s9)) (S10 : Sta Z h "com/example/quittance/quittance/AuditEntry$Action" "INVOICE_DRAFTED" "Lcom/example/quittance/quittance/AuditEntry$Action;" (.ref s10)) (S11 : Sta Z h "com/example/quittance/quittance/AuditEntry$Action" "CREDIT_MEMO_POSTED" "Lcom/example/quittance/quittance/AuditEntry$Action;" (.ref s11)) (S12 : Sta Z h "com/example/quittance/quittance/AuditEntry$Action" "INVOICE_ADJUSTED" "Lcom/example/quittance/quittance/AuditEntry$Action;" (.ref s12)) (S13 : Sta Z h "com/example/quittance/quittance/AuditEntry$Action" "CREDIT_NOTE_DRAFTED" "Lcom/example/quittance/quittance/AuditEntry$Action;" (.ref s13)) : OM l Z (⟨"com/example/quittance/quittance/AuditEntryWithAmountPinLaw", "action", "(I)Lcom/example/quittance/quittance/AuditEntry$Action;"⟩ : MethodName) method_3_code 1 (some (.object "com/example/quittance/quittance/AuditEntry$Action")) ⟨0, 0, 0, 0⟩ n0 h #[(.int x0)] (fun v h' => v = some (.ref (F1 x0 s0 s1 s2 s3 s4 s5 s6 s7 s8 s9 s10 s11 s12 s13)) ∧ h' = h) 0 0 := by
  refine OM.of_body (ls := #[.val (.int x0)]) (plainFor_of_name pn_5) (fun m => by first | rfl | simp [entryFrame, mkF, argsToLocals, Value.category]) ?_
  intro p e s m below meth c C
  refine OG.ow (OG.iloadN C d1_0 rfl (pc' := 1) rfl) ?_
  by_cases hc1 : x0 = (0 : Int32)
  · refine OG.ow (OG.ifNo C d1_1 ((if0 _ _).trans (teq hc1).2) (pc' := 4) rfl) ?_
    refine OG.ow (OG.getS C (host := "") (Or.inl (w5 hw)) Via.refl S0 d1_4 (pc' := 7) rfl) ?_
    refine OW.retA C rfl rfl d1_7 (by decide) (by decide) ?_
    refine ⟨congrArg (fun z => some (Value.ref z)) ?_, rfl⟩
    show _ = F1 x0 s0 s1 s2 s3 s4 s5 s6 s7 s8 s9 s10 s11 s12 s13
    first | (unfold F1; rw [if_pos hc1]) | (unfold F1; dsimp only; rw [if_pos hc1])
  · refine OG.ow (OG.ifYes C d1_1 ((if0 _ _).trans (feq hc1).2) (by decide) (pc' := 8) (by decide)) ?_
    refine OG.ow (OG.iloadN C d1_8 rfl (pc' := 9) rfl) ?_
    refine OG.ow (OG.iconst C d1_9 (z := (1 : Int32)) rfl (pc' := 10) rfl) ?_
    by_cases hc2 : x0 = (1 : Int32)
    · refine OG.ow (OG.icmpNo C d1_10 (teq hc2).2 (pc' := 13) rfl) ?_
      refine OG.ow (OG.getS C (host := "") (Or.inl (w97 hw)) Via.refl S1 d1_13 (pc' := 16) rfl) ?_
      refine OW.retA C rfl rfl d1_16 (by decide) (by decide) ?_
      refine ⟨congrArg (fun z => some (Value.ref z)) ?_, rfl⟩
      show _ = F1 x0 s0 s1 s2 s3 s4 s5 s6 s7 s8 s9 s10 s11 s12 s13
      first | (unfold F1; rw [if_neg hc1, if_pos hc2]) | (unfold F1; dsimp only; rw [if_neg hc1, if_pos hc2])
    · refine OG.ow (OG.icmpYes C d1_10 (feq hc2).2 (by decide) (pc' := 17) (by decide)) ?_
      refine OG.ow (OG.iloadN C d1_17 rfl (pc' := 18) rfl) ?_
      refine OG.ow (OG.iconst C d1_18 (z := (2 : Int32)) rfl (pc' := 19) rfl) ?_
      by_cases hc3 : x0 = (2 : Int32)
      · refine OG.ow (OG.icmpNo C d1_19 (teq hc3).2 (pc' := 22) rfl) ?_
        refine OG.ow (OG.getS C (host := "") (Or.inl (w115 hw)) Via.refl S10 d1_22 (pc' := 25) rfl) ?_
        refine OW.retA C rfl rfl d1_25 (by decide) (by decide) ?_
        refine ⟨congrArg (fun z => some (Value.ref z)) ?_, rfl⟩
        show _ = F1 x0 s0 s1 s2 s3 s4 s5 s6 s7 s8 s9 s10 s11 s12 s13
        first | (unfold F1; rw [if_neg hc1, if_neg hc2, if_pos hc3]) | (unfold F1; dsimp only; rw [if_neg hc1, if_neg hc2, if_pos hc3])
      · refine OG.ow (OG.icmpYes C d1_19 (feq hc3).2 (by decide) (pc' := 26) (by decide)) ?_
        refine OG.ow (OG.iloadN C d1_26 rfl (pc' := 27) rfl) ?_
        refine OG.ow (OG.iconst C d1_27 (z := (3 : Int32)) rfl (pc' := 28) rfl) ?_
        by_cases hc4 : x0 = (3 : Int32)
        · refine OG.ow (OG.icmpNo C d1_28 (teq hc4).2 (pc' := 31) rfl) ?_
          refine OG.ow (OG.getS C (host := "") (Or.inl (w109 hw)) Via.refl S7 d1_31 (pc' := 34) rfl) ?_
          refine OW.retA C rfl rfl d1_34 (by decide) (by decide) ?_
          refine ⟨congrArg (fun z => some (Value.ref z)) ?_, rfl⟩
          show _ = F1 x0 s0 s1 s2 s3 s4 s5 s6 s7 s8 s9 s10 s11 s12 s13
          first | (unfold F1; rw [if_neg hc1, if_neg hc2, if_neg hc3, if_pos hc4]) | (unfold F1; dsimp only; rw [if_neg hc1, if_neg hc2, if_neg hc3, if_pos hc4])
        · refine OG.ow (OG.icmpYes C d1_28 (feq hc4).2 (by decide) (pc' := 35) (by decide)) ?_
          refine OG.ow (OG.iloadN C d1_35 rfl (pc' := 36) rfl) ?_
          refine OG.ow (OG.iconst C d1_36 (z := (4 : Int32)) rfl (pc' := 37) rfl) ?_
          by_cases hc5 : x0 = (4 : Int32)
          · refine OG.ow (OG.icmpNo C d1_37 (teq hc5).2 (pc' := 40) rfl) ?_
            refine OG.ow (OG.getS C (host := "") (Or.inl (w119 hw)) Via.refl S12 d1_40 (pc' := 43) rfl) ?_
            refine OW.retA C rfl rfl d1_43 (by decide) (by decide) ?_
            refine ⟨congrArg (fun z => some (Value.ref z)) ?_, rfl⟩
            show _ = F1 x0 s0 s1 s2 s3 s4 s5 s6 s7 s8 s9 s10 s11 s12 s13
            first | (unfold F1; rw [if_neg hc1, if_neg hc2, if_neg hc3, if_neg hc4, if_pos hc5]) | (unfold F1; dsimp only; rw [if_neg hc1, if_neg hc2, if_neg hc3, if_neg hc4, if_pos hc5])
          · refine OG.ow (OG.icmpYes C d1_37 (feq hc5).2 (by decide) (pc' := 44) (by decide)) ?_
            refine OG.ow (OG.iloadN C d1_44 rfl (pc' := 45) rfl) ?_
            refine OG.ow (OG.iconst C d1_45 (z := (5 : Int32)) rfl (pc' := 46) rfl) ?_
            by_cases hc6 : x0 = (5 : Int32)
            · refine OG.ow (OG.icmpNo C d1_46 (teq hc6).2 (pc' := 49) rfl) ?_
              refine OG.ow (OG.getS C (host := "") (Or.inl (w113 hw)) Via.refl S9 d1_49 (pc' := 52) rfl) ?_
              refine OW.retA C rfl rfl d1_52 (by decide) (by decide) ?_
              refine ⟨congrArg (fun z => some (Value.ref z)) ?_, rfl⟩
              show _ = F1 x0 s0 s1 s2 s3 s4 s5 s6 s7 s8 s9 s10 s11 s12 s13
              first | (unfold F1; rw [if_neg hc1, if_neg hc2, if_neg hc3, if_neg hc4, if_neg hc5, if_pos hc6]) | (unfold F1; dsimp only; rw [if_neg hc1, if_neg hc2, if_neg hc3, if_neg hc4, if_neg hc5, if_pos hc6])
            · refine OG.ow (OG.icmpYes C d1_46 (feq hc6).2 (by decide) (pc' := 53) (by decide)) ?_
              refine OG.ow (OG.iloadN C d1_53 rfl (pc' := 54) rfl) ?_
              refine OG.ow (OG.bipush C d1_54 (z := (6 : Int32)) (by decide) (pc' := 56) rfl) ?_
              by_cases hc7 : x0 = (6 : Int32)
              · refine OG.ow (OG.icmpNo C d1_56 (teq hc7).2 (pc' := 59) rfl) ?_
                refine OG.ow (OG.getS C (host := "") (Or.inl (w103 hw)) Via.refl S4 d1_59 (pc' := 62) rfl) ?_
                refine OW.retA C rfl rfl d1_62 (by decide) (by decide) ?_
                refine ⟨congrArg (fun z => some (Value.ref z)) ?_, rfl⟩
                show _ = F1 x0 s0 s1 s2 s3 s4 s5 s6 s7 s8 s9 s10 s11 s12 s13
                first | (unfold F1; rw [if_neg hc1, if_neg hc2, if_neg hc3, if_neg hc4, if_neg hc5, if_neg hc6, if_pos hc7]) | (unfold F1; dsimp only; rw [if_neg hc1, if_neg hc2, if_neg hc3, if_neg hc4, if_neg hc5, if_neg hc6, if_pos hc7])
              · refine OG.ow (OG.icmpYes C d1_56 (feq hc7).2 (by decide) (pc' := 63) (by decide)) ?_
                refine OG.ow (OG.iloadN C d1_63 rfl (pc' := 64) rfl) ?_
                refine OG.ow (OG.bipush C d1_64 (z := (7 : Int32)) (by decide) (pc' := 66) rfl) ?_
                by_cases hc8 : x0 = (7 : Int32)
                · refine OG.ow (OG.icmpNo C d1_66 (teq hc8).2 (pc' := 69) rfl) ?_
                  refine OG.ow (OG.getS C (host := "") (Or.inl (w99 hw)) Via.refl S2 d1_69 (pc' := 72) rfl) ?_
                  refine OW.retA C rfl rfl d1_72 (by decide) (by decide) ?_
                  refine ⟨congrArg (fun z => some (Value.ref z)) ?_, rfl⟩
                  show _ = F1 x0 s0 s1 s2 s3 s4 s5 s6 s7 s8 s9 s10 s11 s12 s13
                  first | (unfold F1; rw [if_neg hc1, if_neg hc2, if_neg hc3, if_neg hc4, if_neg hc5, if_neg hc6, if_neg hc7, if_pos hc8]) | (unfold F1; dsimp only; rw [if_neg hc1, if_neg hc2, if_neg hc3, if_neg hc4, if_neg hc5, if_neg hc6, if_neg hc7, if_pos hc8])
                · refine OG.ow (OG.icmpYes C d1_66 (feq hc8).2 (by decide) (pc' := 73) (by decide)) ?_
                  refine OG.ow (OG.iloadN C d1_73 rfl (pc' := 74) rfl) ?_
                  refine OG.ow (OG.bipush C d1_74 (z := (8 : Int32)) (by decide) (pc' := 76) rfl) ?_
                  by_cases hc9 : x0 = (8 : Int32)
                  · refine OG.ow (OG.icmpNo C d1_76 (teq hc9).2 (pc' := 79) rfl) ?_
                    refine OG.ow (OG.getS C (host := "") (Or.inl (w107 hw)) Via.refl S6 d1_79 (pc' := 82) rfl) ?_
                    refine OW.retA C rfl rfl d1_82 (by decide) (by decide) ?_
                    refine ⟨congrArg (fun z => some (Value.ref z)) ?_, rfl⟩
                    show _ = F1 x0 s0 s1 s2 s3 s4 s5 s6 s7 s8 s9 s10 s11 s12 s13
                    first | (unfold F1; rw [if_neg hc1, if_neg hc2, if_neg hc3, if_neg hc4, if_neg hc5, if_neg hc6, if_neg hc7, if_neg hc8, if_pos hc9]) | (unfold F1; dsimp only; rw [if_neg hc1, if_neg hc2, if_neg hc3, if_neg hc4, if_neg hc5, if_neg hc6, if_neg hc7, if_neg hc8, if_pos hc9])
                  · refine OG.ow (OG.icmpYes C d1_76 (feq hc9).2 (by decide) (pc' := 83) (by decide)) ?_
                    refine OG.ow (OG.iloadN C d1_83 rfl (pc' := 84) rfl) ?_
                    refine OG.ow (OG.bipush C d1_84 (z := (9 : Int32)) (by decide) (pc' := 86) rfl) ?_
                    by_cases hc10 : x0 = (9 : Int32)
                    · refine OG.ow (OG.icmpNo C d1_86 (teq hc10).2 (pc' := 89) rfl) ?_
                      refine OG.ow (OG.getS C (host := "") (Or.inl (w121 hw)) Via.refl S13 d1_89 (pc' := 92) rfl) ?_
                      refine OW.retA C rfl rfl d1_92 (by decide) (by decide) ?_
                      refine ⟨congrArg (fun z => some (Value.ref z)) ?_, rfl⟩
                      show _ = F1 x0 s0 s1 s2 s3 s4 s5 s6 s7 s8 s9 s10 s11 s12 s13
                      first | (unfold F1; rw [if_neg hc1, if_neg hc2, if_neg hc3, if_neg hc4, if_neg hc5, if_neg hc6, if_neg hc7, if_neg hc8, if_neg hc9, if_pos hc10]) | (unfold F1; dsimp only; rw [if_neg hc1, if_neg hc2, if_neg hc3, if_neg hc4, if_neg hc5, if_neg hc6, if_neg hc7, if_neg hc8, if_neg hc9, if_pos hc10])
                    · refine OG.ow (OG.icmpYes C d1_86 (feq hc10).2 (by decide) (pc' := 93) (by decide)) ?_
                      refine OG.ow (OG.iloadN C d1_93 rfl (pc' := 94) rfl) ?_
                      refine OG.ow (OG.bipush C d1_94 (z := (10 : Int32)) (by decide) (pc' := 96) rfl) ?_
                      by_cases hc11 : x0 = (10 : Int32)
                      · refine OG.ow (OG.icmpNo C d1_96 (teq hc11).2 (pc' := 99) rfl) ?_
                        refine OG.ow (OG.getS C (host := "") (Or.inl (w117 hw)) Via.refl S11 d1_99 (pc' := 102) rfl) ?_
                        refine OW.retA C rfl rfl d1_102 (by decide) (by decide) ?_
                        refine ⟨congrArg (fun z => some (Value.ref z)) ?_, rfl⟩
                        show _ = F1 x0 s0 s1 s2 s3 s4 s5 s6 s7 s8 s9 s10 s11 s12 s13
                        first | (unfold F1; rw [if_neg hc1, if_neg hc2, if_neg hc3, if_neg hc4, if_neg hc5, if_neg hc6, if_neg hc7, if_neg hc8, if_neg hc9, if_neg hc10, if_pos hc11]) | (unfold F1; dsimp only; rw [if_neg hc1, if_neg hc2, if_neg hc3, if_neg hc4, if_neg hc5, if_neg hc6, if_neg hc7, if_neg hc8, if_neg hc9, if_neg hc10, if_pos hc11])
                      · refine OG.ow (OG.icmpYes C d1_96 (feq hc11).2 (by decide) (pc' := 103) (by decide)) ?_
                        refine OG.ow (OG.iloadN C d1_103 rfl (pc' := 104) rfl) ?_
                        refine OG.ow (OG.bipush C d1_104 (z := (11 : Int32)) (by decide) (pc' := 106) rfl) ?_
                        by_cases hc12 : x0 = (11 : Int32)
                        · refine OG.ow (OG.icmpNo C d1_106 (teq hc12).2 (pc' := 109) rfl) ?_
                          refine OG.ow (OG.getS C (host := "") (Or.inl (w111 hw)) Via.refl S8 d1_109 (pc' := 112) rfl) ?_
                          refine OW.retA C rfl rfl d1_112 (by decide) (by decide) ?_
                          refine ⟨congrArg (fun z => some (Value.ref z)) ?_, rfl⟩
                          show _ = F1 x0 s0 s1 s2 s3 s4 s5 s6 s7 s8 s9 s10 s11 s12 s13
                          first | (unfold F1; rw [if_neg hc1, if_neg hc2, if_neg hc3, if_neg hc4, if_neg hc5, if_neg hc6, if_neg hc7, if_neg hc8, if_neg hc9, if_neg hc10, if_neg hc11, if_pos hc12]) | (unfold F1; dsimp only; rw [if_neg hc1, if_neg hc2, if_neg hc3, if_neg hc4, if_neg hc5, if_neg hc6, if_neg hc7, if_neg hc8, if_neg hc9, if_neg hc10, if_neg hc11, if_pos hc12])
                        · refine OG.ow (OG.icmpYes C d1_106 (feq hc12).2 (by decide) (pc' := 113) (by decide)) ?_
                          refine OG.ow (OG.iloadN C d1_113 rfl (pc' := 114) rfl) ?_
                          refine OG.ow (OG.bipush C d1_114 (z := (12 : Int32)) (by decide) (pc' := 116) rfl) ?_
                          by_cases hc13 : x0 = (12 : Int32)
                          · refine OG.ow (OG.icmpNo C d1_116 (teq hc13).2 (pc' := 119) rfl) ?_
                            refine OG.ow (OG.getS C (host := "") (Or.inl (w105 hw)) Via.refl S5 d1_119 (pc' := 122) rfl) ?_
                            refine OW.retA C rfl rfl d1_122 (by decide) (by decide) ?_
                            refine ⟨congrArg (fun z => some (Value.ref z)) ?_, rfl⟩
                            show _ = F1 x0 s0 s1 s2 s3 s4 s5 s6 s7 s8 s9 s10 s11 s12 s13
                            first | (unfold F1; rw [if_neg hc1, if_neg hc2, if_neg hc3, if_neg hc4, if_neg hc5, if_neg hc6, if_neg hc7, if_neg hc8, if_neg hc9, if_neg hc10, if_neg hc11, if_neg hc12, if_pos hc13]) | (unfold F1; dsimp only; rw [if_neg hc1, if_neg hc2, if_neg hc3, if_neg hc4, if_neg hc5, if_neg hc6, if_neg hc7, if_neg hc8, if_neg hc9, if_neg hc10, if_neg hc11, if_neg hc12, if_pos hc13])
                          · refine OG.ow (OG.icmpYes C d1_116 (feq hc13).2 (by decide) (pc' := 123) (by decide)) ?_
                            refine OG.ow (OG.getS C (host := "") (Or.inl (w101 hw)) Via.refl S3 d1_123 (pc' := 126) rfl) ?_
                            refine OW.retA C rfl rfl d1_126 (by decide) (by decide) ?_
                            refine ⟨congrArg (fun z => some (Value.ref z)) ?_, rfl⟩
                            show _ = F1 x0 s0 s1 s2 s3 s4 s5 s6 s7 s8 s9 s10 s11 s12 s13
                            first | (unfold F1; rw [if_neg hc1, if_neg hc2, if_neg hc3, if_neg hc4, if_neg hc5, if_neg hc6, if_neg hc7, if_neg hc8, if_neg hc9, if_neg hc10, if_neg hc11, if_neg hc12, if_neg hc13]) | (unfold F1; dsimp only; rw [if_neg hc1, if_neg hc2, if_neg hc3, if_neg hc4, if_neg hc5, if_neg hc6, if_neg hc7, if_neg hc8, if_neg hc9, if_neg hc10, if_neg hc11, if_neg hc12, if_neg hc13])
theorem own_255 (x : Int32) : ¬ (255 : Int32) < (x &&& (255 : Int32)).toUInt32.toUInt16.toUInt32.toInt32 := by
  rw [i2c_mask]
  have := (c_and x 255 (by decide)).2
  rw [Int32.lt_iff_toInt_lt]
  have e : (255 : Int32).toInt = 255 := by decide
  omega
set_option maxRecDepth 65536 in
set_option maxHeartbeats 40000000 in
theorem b0 {l : Launch} {Z : State} {a0 : Array Value} (hw : HW a0 Z) (x0 : Int32) (x1 : Int32) (x2 : Int32) (x3 : Int64) (x4 : Int64) {n0 : Nat} {h : Heap} (Z0 : n0 ≤ h.size) {cs : Int32} (S_cs : Sta Z h "java/lang/String" "COMPACT_STRINGS" "Z" (.int cs)) (hcs : ¬ cs = (0 : Int32)) {s0 s1 s2 s3 s4 s5 s6 s7 s8 s9 s10 s11 s12 s13 : Addr} (S0 : Sta Z h "com/example/quittance/quittance/AuditEntry$Action" "REASON_CODE_SET" "Lcom/example/quittance/quittance/AuditEntry$Action;" (.ref s0)) (S1 : Sta Z h "com/example/quittance/quittance/AuditEntry$Action" "CUSTOMER_CREATED" "Lcom/example/quittance/quittance/AuditEntry$Action;" (.ref s1)) (S2 : Sta Z h "com/example/quittance/quittance/AuditEntry$Action" "PAYMENT_APPLICATION_REVERSED" "Lcom/example/quittance/quittance/AuditEntry$Action;" (.ref s2)) (S3 : Sta Z h "com/example/quittance/quittance/AuditEntry$Action" "CREDIT_NOTE_VOIDED" "Lcom/example/quittance/quittance/AuditEntry$Action;" (.ref s3)) (S4 : Sta Z h "com/example/quittance/quittance/AuditEntry$Action" "PAYMENT_APPLIED" "Lcom/example/quittance/quittance/AuditEntry$Action;" (.ref s4)) (S5 : Sta Z h "com/example/quittance/quittance/AuditEntry$Action" "CREDIT_REFUNDED" "Lcom/example/quittance/quittance/AuditEntry$Action;" (.ref s5)) (S6 : Sta Z h "com/example/quittance/quittance/AuditEntry$Action" "CUSTOMER_CREDIT_CREATED" "Lcom/example/quittance/quittance/AuditEntry$Action;" (.ref s6)) (S7 : Sta Z h "com/example/quittance/quittance/AuditEntry$Action" "INVOICE_POSTED" "Lcom/example/quittance/quittance/AuditEntry$Action;" (.ref s7)) (S8 : Sta Z h "com/example/quittance/quittance/AuditEntry$Action" "CREDIT_ALLOCATED" "Lcom/example/quittance/quittance/AuditEntry$Action;" (.ref s8)) (S9 : Sta Z h "com/example/quittance/quittance/AuditEntry$Action" "PAYMENT_RECORDED" "Lcom/example/quittance/quittance/AuditEntry$Action;" (.ref s9)) (S10 : Sta Z h "com/example/quittance/quittance/AuditEntry$Action" "INVOICE_DRAFTED" "Lcom/example/quittance/quittance/AuditEntry$Action;" (.ref s10)) (S11 : Sta Z h "com/example/quittance/quittance/AuditEntry$Action" "CREDIT_MEMO_POSTED" "Lcom/example/quittance/quittance/AuditEntry$Action;" (.ref s11)) (S12 : Sta Z h "com/example/quittance/quittance/AuditEntry$Action" "INVOICE_ADJUSTED" "Lcom/example/quittance/quittance/AuditEntry$Action;" (.ref s12)) (S13 : Sta Z h "com/example/quittance/quittance/AuditEntry$Action" "CREDIT_NOTE_DRAFTED" "Lcom/example/quittance/quittance/AuditEntry$Action;" (.ref s13)) : OM l Z x code maxLocals ret room_1 n0 h #[(.int x0), (.int x1), (.int x2), (.long x3), (.long x4)] (fun v h' => v = some (.int 1)) 10 27 := by
  refine OM.of_body (ls := #[.val (.int x0), .val (.int x1), .val (.int x2), .val (.long x3), .second, .val (.long x4), .second, .unset, .unset, .unset, .unset, .unset, .unset, .unset, .unset, .unset, .unset]) (plainFor_of_name pn_5) (fun m => by first | rfl | simp [entryFrame, mkF, argsToLocals, Value.category, maxLocals]) ?_
  intro p e s m below meth c C
  refine OG.ow (OG.iloadN C at_0 rfl (pc' := 1) rfl) ?_
  refine OG.ow (OG.ldcI C (w0 hw) at_1 (pc' := 3) rfl) ?_
  refine OG.ow (OG.iand C at_3 (pc' := 4) rfl) ?_
  refine OG.ow (OG.bipush C at_4 (z := (14 : Int32)) (by decide) (pc' := 6) rfl) ?_
  refine OG.ow (OG.irem C at_6 (by decide) (pc' := 7) rfl) ?_
  refine OG.ow (OG.callS C (w1 hw) (w2 hw) (w3 hw) (w4 hw) (by decide) (b1 hw ((x0 &&& (2147483647 : Int32)) % (14 : Int32)) S0 S1 S2 S3 S4 S5 S6 S7 S8 S9 S10 S11 S12 S13) at_7 pd_5 rfl (argsL := [(.int ((x0 &&& (2147483647 : Int32)) % (14 : Int32)))]) (rest := []) rfl rfl (W := 0) rfl (by decide) (by decide) (pc' := 10) rfl) ?_
  refine OG.ow (OG.astore C at_10 rfl (ls' := #[.val (.int x0), .val (.int x1), .val (.int x2), .val (.long x3), .second, .val (.long x4), .second, .val (.ref (F1 ((x0 &&& (2147483647 : Int32)) % (14 : Int32)) s0 s1 s2 s3 s4 s5 s6 s7 s8 s9 s10 s11 s12 s13)), .unset, .unset, .unset, .unset, .unset, .unset, .unset, .unset, .unset]) rfl (pc' := 12) rfl) ?_
  refine OG.ow (OG.iloadN C at_12 rfl (pc' := 13) rfl) ?_
  refine OG.ow (OG.iconst C at_13 (z := (1 : Int32)) rfl (pc' := 14) rfl) ?_
  refine OG.ow (OG.iand C at_14 (pc' := 15) rfl) ?_
  refine OW.join (P := fun v h' => v.isRef = true ∧ Keep h h' []) (f := fun v => mkF m 31 #[.val (.int x0), .val (.int x1), .val (.int x2), .val (.long x3), .second, .val (.long x4), .second, .val (.ref (F1 ((x0 &&& (2147483647 : Int32)) % (14 : Int32)) s0 s1 s2 s3 s4 s5 s6 s7 s8 s9 s10 s11 s12 s13)), .unset, .unset, .unset, .unset, .unset, .unset, .unset, .unset, .unset] [v]) (cl' := 2) (sl' := 5) ?_ ?_
  · intro J1
    by_cases hc6 : (x1 &&& (1 : Int32)) = (0 : Int32)
    · refine OG.ow (OG.ifYes C at_15 ((if0 _ _).trans (teq hc6).1) (by decide) (pc' := 22) (by decide)) ?_
      refine OG.ow (OG.iloadN C at_22 rfl (pc' := 23) rfl) ?_
      refine OG.ow (OG.sipush C at_23 (z := (255 : Int32)) (by decide) (pc' := 26) rfl) ?_
      refine OG.ow (OG.iand C at_26 (pc' := 27) rfl) ?_
      refine OG.ow (OG.i2c C at_27 (pc' := 28) rfl) ?_
      refine OW.callS C (w8 hw) (w9 hw) (w10 hw) (w11 hw) (by decide) (b2 hw (x2 &&& (255 : Int32)).toUInt32.toUInt16.toUInt32.toInt32 Z0 S_cs hcs (own_255 _)) at_28 pd_6 rfl (argsL := [(.int (x2 &&& (255 : Int32)).toUInt32.toUInt16.toUInt32.toInt32)]) (rest := []) rfl rfl (W := 0) rfl (by decide) (by decide) (by decide) (by decide) (pc' := 31) rfl ?_
      intro vh7 h7 qh7
      obtain ⟨a8, rfl, ga8, Kh7, Ea8⟩ := qh7
      exact (J1 _ _ ⟨rfl, ((Keep.refl h []).trans Kh7 all0)⟩).more (by decide) (by decide) (by decide) (by decide)
    · refine OG.ow (OG.ifNo C at_15 ((if0 _ _).trans (feq hc6).1) (pc' := 18) rfl) ?_
      refine OG.ow (OG.aconst_null C at_18 (pc' := 19) rfl) ?_
      refine OG.ow (OG.goto C at_19 (by decide) (pc' := 31) (by decide)) ?_
      exact (J1 _ _ ⟨rfl, (Keep.refl h [])⟩).more (by decide) (by decide) (by decide) (by decide)
  rintro v2 h3 ⟨r4, K5⟩
  refine OG.ow (OG.astore C at_31 r4 (ls' := #[.val (.int x0), .val (.int x1), .val (.int x2), .val (.long x3), .second, .val (.long x4), .second, .val (.ref (F1 ((x0 &&& (2147483647 : Int32)) % (14 : Int32)) s0 s1 s2 s3 s4 s5 s6 s7 s8 s9 s10 s11 s12 s13)), .val v2, .unset, .unset, .unset, .unset, .unset, .unset, .unset, .unset]) (by rcases ref_cases r4 with rfl | ⟨_, rfl⟩ <;> rfl) (pc' := 33) rfl) ?_
  refine OG.ow (OG.iloadN C at_33 rfl (pc' := 34) rfl) ?_
  refine OG.ow (OG.iconst C at_34 (z := (2 : Int32)) rfl (pc' := 35) rfl) ?_
  refine OG.ow (OG.iand C at_35 (pc' := 36) rfl) ?_
  refine OW.join (P := fun v h' => v.isRef = true ∧ Keep h3 h' []) (f := fun v => mkF m 55 #[.val (.int x0), .val (.int x1), .val (.int x2), .val (.long x3), .second, .val (.long x4), .second, .val (.ref (F1 ((x0 &&& (2147483647 : Int32)) % (14 : Int32)) s0 s1 s2 s3 s4 s5 s6 s7 s8 s9 s10 s11 s12 s13)), .val v2, .unset, .unset, .unset, .unset, .unset, .unset, .unset, .unset] [v]) (cl' := 4) (sl' := 10) ?_ ?_
  · intro J9
    by_cases hc14 : (x1 &&& (2 : Int32)) = (0 : Int32)
    · refine OG.ow (OG.ifYes C at_36 ((if0 _ _).trans (teq hc14).1) (by decide) (pc' := 43) (by decide)) ?_
      refine OG.ow (OG.iloadN C at_43 rfl (pc' := 44) rfl) ?_
      refine OG.ow (OG.bipush C at_44 (z := (8 : Int32)) (by decide) (pc' := 46) rfl) ?_
      refine OG.ow (OG.iushr C at_46 (pc' := 47) rfl) ?_
      refine OG.ow (OG.sipush C at_47 (z := (255 : Int32)) (by decide) (pc' := 50) rfl) ?_
      refine OG.ow (OG.iand C at_50 (pc' := 51) rfl) ?_
      refine OG.ow (OG.i2c C at_51 (pc' := 52) rfl) ?_
      have G15 := (Sta.kp S_cs K5 all0)
      refine OW.callS C (w8 hw) (w9 hw) (w10 hw) (w11 hw) (by decide) (b2 hw ((x2.toUInt32 >>> ((8 : Int32) &&& 31).toUInt32).toInt32 &&& (255 : Int32)).toUInt32.toUInt16.toUInt32.toInt32 (Nat.le_trans Z0 K5.1) G15 hcs (own_255 _)) at_52 pd_6 rfl (argsL := [(.int ((x2.toUInt32 >>> ((8 : Int32) &&& 31).toUInt32).toInt32 &&& (255 : Int32)).toUInt32.toUInt16.toUInt32.toInt32)]) (rest := []) rfl rfl (W := 0) rfl (by decide) (by decide) (by decide) (by decide) (pc' := 55) rfl ?_
      intro vh16 h16 qh16
      obtain ⟨a17, rfl, ga17, Kh16, Ea17⟩ := qh16
      exact (J9 _ _ ⟨rfl, ((Keep.refl h3 []).trans Kh16 all0)⟩).more (by decide) (by decide) (by decide) (by decide)
    · refine OG.ow (OG.ifNo C at_36 ((if0 _ _).trans (feq hc14).1) (pc' := 39) rfl) ?_
      refine OG.ow (OG.aconst_null C at_39 (pc' := 40) rfl) ?_
      refine OG.ow (OG.goto C at_40 (by decide) (pc' := 55) (by decide)) ?_
      exact (J9 _ _ ⟨rfl, (Keep.refl h3 [])⟩).more (by decide) (by decide) (by decide) (by decide)
  rintro v10 h11 ⟨r12, K13⟩
  refine OG.ow (OG.astore C at_55 r12 (ls' := #[.val (.int x0), .val (.int x1), .val (.int x2), .val (.long x3), .second, .val (.long x4), .second, .val (.ref (F1 ((x0 &&& (2147483647 : Int32)) % (14 : Int32)) s0 s1 s2 s3 s4 s5 s6 s7 s8 s9 s10 s11 s12 s13)), .val v2, .val v10, .unset, .unset, .unset, .unset, .unset, .unset, .unset]) (by rcases ref_cases r12 with rfl | ⟨_, rfl⟩ <;> rcases ref_cases r4 with rfl | ⟨_, rfl⟩ <;> rfl) (pc' := 57) rfl) ?_
  refine OG.ow (OG.iloadN C at_57 rfl (pc' := 58) rfl) ?_
  refine OG.ow (OG.iconst C at_58 (z := (4 : Int32)) rfl (pc' := 59) rfl) ?_
  refine OG.ow (OG.iand C at_59 (pc' := 60) rfl) ?_
  refine OW.join (P := fun v h' => v.isRef = true ∧ Keep h11 h' []) (f := fun v => mkF m 79 #[.val (.int x0), .val (.int x1), .val (.int x2), .val (.long x3), .second, .val (.long x4), .second, .val (.ref (F1 ((x0 &&& (2147483647 : Int32)) % (14 : Int32)) s0 s1 s2 s3 s4 s5 s6 s7 s8 s9 s10 s11 s12 s13)), .val v2, .val v10, .unset, .unset, .unset, .unset, .unset, .unset, .unset] [v]) (cl' := 6) (sl' := 15) ?_ ?_
  · intro J18
    by_cases hc23 : (x1 &&& (4 : Int32)) = (0 : Int32)
    · refine OG.ow (OG.ifYes C at_60 ((if0 _ _).trans (teq hc23).1) (by decide) (pc' := 67) (by decide)) ?_
      refine OG.ow (OG.iloadN C at_67 rfl (pc' := 68) rfl) ?_
      refine OG.ow (OG.bipush C at_68 (z := (16 : Int32)) (by decide) (pc' := 70) rfl) ?_
      refine OG.ow (OG.iushr C at_70 (pc' := 71) rfl) ?_
      refine OG.ow (OG.sipush C at_71 (z := (255 : Int32)) (by decide) (pc' := 74) rfl) ?_
      refine OG.ow (OG.iand C at_74 (pc' := 75) rfl) ?_
      refine OG.ow (OG.i2c C at_75 (pc' := 76) rfl) ?_
      have G24 := (Sta.kp (Sta.kp S_cs K5 all0) K13 all0)
      refine OW.callS C (w8 hw) (w9 hw) (w10 hw) (w11 hw) (by decide) (b2 hw ((x2.toUInt32 >>> ((16 : Int32) &&& 31).toUInt32).toInt32 &&& (255 : Int32)).toUInt32.toUInt16.toUInt32.toInt32 (Nat.le_trans (Nat.le_trans Z0 K5.1) K13.1) G24 hcs (own_255 _)) at_76 pd_6 rfl (argsL := [(.int ((x2.toUInt32 >>> ((16 : Int32) &&& 31).toUInt32).toInt32 &&& (255 : Int32)).toUInt32.toUInt16.toUInt32.toInt32)]) (rest := []) rfl rfl (W := 0) rfl (by decide) (by decide) (by decide) (by decide) (pc' := 79) rfl ?_
      intro vh25 h25 qh25
      obtain ⟨a26, rfl, ga26, Kh25, Ea26⟩ := qh25
      exact (J18 _ _ ⟨rfl, ((Keep.refl h11 []).trans Kh25 all0)⟩).more (by decide) (by decide) (by decide) (by decide)
    · refine OG.ow (OG.ifNo C at_60 ((if0 _ _).trans (feq hc23).1) (pc' := 63) rfl) ?_
      refine OG.ow (OG.aconst_null C at_63 (pc' := 64) rfl) ?_
      refine OG.ow (OG.goto C at_64 (by decide) (pc' := 79) (by decide)) ?_
      exact (J18 _ _ ⟨rfl, (Keep.refl h11 [])⟩).more (by decide) (by decide) (by decide) (by decide)
  rintro v19 h20 ⟨r21, K22⟩
  refine OG.ow (OG.astore C at_79 r21 (ls' := #[.val (.int x0), .val (.int x1), .val (.int x2), .val (.long x3), .second, .val (.long x4), .second, .val (.ref (F1 ((x0 &&& (2147483647 : Int32)) % (14 : Int32)) s0 s1 s2 s3 s4 s5 s6 s7 s8 s9 s10 s11 s12 s13)), .val v2, .val v10, .val v19, .unset, .unset, .unset, .unset, .unset, .unset]) (by rcases ref_cases r21 with rfl | ⟨_, rfl⟩ <;> rcases ref_cases r12 with rfl | ⟨_, rfl⟩ <;> rfl) (pc' := 81) rfl) ?_
  refine OG.ow (OG.iloadN C at_81 rfl (pc' := 82) rfl) ?_
  refine OG.ow (OG.bipush C at_82 (z := (8 : Int32)) (by decide) (pc' := 84) rfl) ?_
  refine OG.ow (OG.iand C at_84 (pc' := 85) rfl) ?_
  refine OW.join (P := fun v h' => v.isRef = true ∧ Keep h20 h' []) (f := fun v => mkF m 100 #[.val (.int x0), .val (.int x1), .val (.int x2), .val (.long x3), .second, .val (.long x4), .second, .val (.ref (F1 ((x0 &&& (2147483647 : Int32)) % (14 : Int32)) s0 s1 s2 s3 s4 s5 s6 s7 s8 s9 s10 s11 s12 s13)), .val v2, .val v10, .val v19, .unset, .unset, .unset, .unset, .unset, .unset] [v]) (cl' := 7) (sl' := 16) ?_ ?_
  · intro J27
    by_cases hc32 : (x1 &&& (8 : Int32)) = (0 : Int32)
    · refine OG.ow (OG.ifYes C at_85 ((if0 _ _).trans (teq hc32).1) (by decide) (pc' := 92) (by decide)) ?_
      refine OW.newO C (w34 hw) (w35 hw) (w36 hw) at_92 (by decide) (by decide) (pc' := 95) rfl ?_
      intro a33 h34 ga33 Eh34 Aa33 Da33
      refine OG.ow (OG.dup C at_95 rfl (pc' := 96) rfl) ?_
      refine OG.ow (OG.lloadN C at_96 rfl (pc' := 97) rfl) ?_
      refine OW.init C (w37 hw) (w38 hw) (w36 hw) (w39 hw) rfl (by decide) (b7 hw a33 x3 (Nat.le_trans (Nat.le_trans (Nat.le_trans (Nat.le_trans Z0 K5.1) K13.1) K22.1) Eh34.1) (Nat.le_trans (Nat.le_trans (Nat.le_trans (Nat.le_trans Z0 K5.1) K13.1) K22.1) (Nat.le_of_eq ga33)) Aa33 (show Fld Z h34 a33 "com/example/quittance/quittance/Amount" "cents" "J" (.long (0 : Int64)) from Da33 (Or.inr (w47 hw)) (ty := .long) (by decide))) at_97 pd_7 rfl (argsL := [(.long x3)]) (rest := [(.ref a33)]) rfl rfl (W := 1) rfl (by decide) (by decide) (by decide) (by decide) (pc' := 100) rfl ?_
      intro vh35 h35 qh35
      obtain ⟨rfl, Kh35, Fh35⟩ := qh35
      exact (J27 _ _ ⟨rfl, (((Keep.refl h20 []).ext Eh34).trans Kh35 (allS (Or.inr (Nat.le_trans (Nat.le_refl _) (Nat.le_of_eq ga33))) all0))⟩).more (by decide) (by decide) (by decide) (by decide)
    · refine OG.ow (OG.ifNo C at_85 ((if0 _ _).trans (feq hc32).1) (pc' := 88) rfl) ?_
      refine OG.ow (OG.aconst_null C at_88 (pc' := 89) rfl) ?_
      refine OG.ow (OG.goto C at_89 (by decide) (pc' := 100) (by decide)) ?_
      exact (J27 _ _ ⟨rfl, (Keep.refl h20 [])⟩).more (by decide) (by decide) (by decide) (by decide)
  rintro v28 h29 ⟨r30, K31⟩
  refine OG.ow (OG.astore C at_100 r30 (ls' := #[.val (.int x0), .val (.int x1), .val (.int x2), .val (.long x3), .second, .val (.long x4), .second, .val (.ref (F1 ((x0 &&& (2147483647 : Int32)) % (14 : Int32)) s0 s1 s2 s3 s4 s5 s6 s7 s8 s9 s10 s11 s12 s13)), .val v2, .val v10, .val v19, .val v28, .unset, .unset, .unset, .unset, .unset]) (by rcases ref_cases r30 with rfl | ⟨_, rfl⟩ <;> rcases ref_cases r21 with rfl | ⟨_, rfl⟩ <;> rfl) (pc' := 102) rfl) ?_
  refine OG.ow (OG.iloadN C at_102 rfl (pc' := 103) rfl) ?_
  refine OG.ow (OG.bipush C at_103 (z := (16 : Int32)) (by decide) (pc' := 105) rfl) ?_
  refine OG.ow (OG.iand C at_105 (pc' := 106) rfl) ?_
  refine OW.join (P := fun v h' => v.isRef = true ∧ Keep h29 h' []) (f := fun v => mkF m 122 #[.val (.int x0), .val (.int x1), .val (.int x2), .val (.long x3), .second, .val (.long x4), .second, .val (.ref (F1 ((x0 &&& (2147483647 : Int32)) % (14 : Int32)) s0 s1 s2 s3 s4 s5 s6 s7 s8 s9 s10 s11 s12 s13)), .val v2, .val v10, .val v19, .val v28, .unset, .unset, .unset, .unset, .unset] [v]) (cl' := 8) (sl' := 17) ?_ ?_
  · intro J36
    by_cases hc41 : (x1 &&& (16 : Int32)) = (0 : Int32)
    · refine OG.ow (OG.ifYes C at_106 ((if0 _ _).trans (teq hc41).1) (by decide) (pc' := 113) (by decide)) ?_
      refine OW.newO C (w34 hw) (w35 hw) (w36 hw) at_113 (by decide) (by decide) (pc' := 116) rfl ?_
      intro a42 h43 ga42 Eh43 Aa42 Da42
      refine OG.ow (OG.dup C at_116 rfl (pc' := 117) rfl) ?_
      refine OG.ow (OG.lload C at_117 rfl (pc' := 119) rfl) ?_
      refine OW.init C (w37 hw) (w38 hw) (w36 hw) (w39 hw) rfl (by decide) (b7 hw a42 x4 (Nat.le_trans (Nat.le_trans (Nat.le_trans (Nat.le_trans (Nat.le_trans Z0 K5.1) K13.1) K22.1) K31.1) Eh43.1) (Nat.le_trans (Nat.le_trans (Nat.le_trans (Nat.le_trans (Nat.le_trans Z0 K5.1) K13.1) K22.1) K31.1) (Nat.le_of_eq ga42)) Aa42 (show Fld Z h43 a42 "com/example/quittance/quittance/Amount" "cents" "J" (.long (0 : Int64)) from Da42 (Or.inr (w47 hw)) (ty := .long) (by decide))) at_119 pd_7 rfl (argsL := [(.long x4)]) (rest := [(.ref a42)]) rfl rfl (W := 1) rfl (by decide) (by decide) (by decide) (by decide) (pc' := 122) rfl ?_
      intro vh44 h44 qh44
      obtain ⟨rfl, Kh44, Fh44⟩ := qh44
      exact (J36 _ _ ⟨rfl, (((Keep.refl h29 []).ext Eh43).trans Kh44 (allS (Or.inr (Nat.le_trans (Nat.le_refl _) (Nat.le_of_eq ga42))) all0))⟩).more (by decide) (by decide) (by decide) (by decide)
    · refine OG.ow (OG.ifNo C at_106 ((if0 _ _).trans (feq hc41).1) (pc' := 109) rfl) ?_
      refine OG.ow (OG.aconst_null C at_109 (pc' := 110) rfl) ?_
      refine OG.ow (OG.goto C at_110 (by decide) (pc' := 122) (by decide)) ?_
      exact (J36 _ _ ⟨rfl, (Keep.refl h29 [])⟩).more (by decide) (by decide) (by decide) (by decide)
  rintro v37 h38 ⟨r39, K40⟩
  refine OG.ow (OG.astore C at_122 r39 (ls' := #[.val (.int x0), .val (.int x1), .val (.int x2), .val (.long x3), .second, .val (.long x4), .second, .val (.ref (F1 ((x0 &&& (2147483647 : Int32)) % (14 : Int32)) s0 s1 s2 s3 s4 s5 s6 s7 s8 s9 s10 s11 s12 s13)), .val v2, .val v10, .val v19, .val v28, .val v37, .unset, .unset, .unset, .unset]) (by rcases ref_cases r39 with rfl | ⟨_, rfl⟩ <;> rcases ref_cases r30 with rfl | ⟨_, rfl⟩ <;> rfl) (pc' := 124) rfl) ?_
  refine OW.newO C (w48 hw) (w49 hw) (w50 hw) at_124 (by decide) (by decide) (pc' := 127) rfl ?_
  intro a45 h46 ga45 Eh46 Aa45 Da45
  refine OG.ow (OG.dup C at_127 rfl (pc' := 128) rfl) ?_
  refine OG.ow (OG.aload C at_128 rfl rfl (pc' := 130) rfl) ?_
  refine OG.ow (OG.aload C at_130 rfl r4 (pc' := 132) rfl) ?_
  refine OG.ow (OG.aload C at_132 rfl r12 (pc' := 134) rfl) ?_
  refine OG.ow (OG.aload C at_134 rfl r30 (pc' := 136) rfl) ?_
  refine OG.ow (OG.aload C at_136 rfl r21 (pc' := 138) rfl) ?_
  refine OW.init C (w51 hw) (w52 hw) (w50 hw) (w53 hw) rfl (by decide) (b9 hw a45 (.ref (F1 ((x0 &&& (2147483647 : Int32)) % (14 : Int32)) s0 s1 s2 s3 s4 s5 s6 s7 s8 s9 s10 s11 s12 s13)) rfl v2 r4 v10 r12 v28 r30 v19 r21 (Nat.le_trans (Nat.le_trans (Nat.le_trans (Nat.le_trans (Nat.le_trans (Nat.le_trans Z0 K5.1) K13.1) K22.1) K31.1) K40.1) Eh46.1) (Nat.le_trans (Nat.le_trans (Nat.le_trans (Nat.le_trans (Nat.le_trans (Nat.le_trans Z0 K5.1) K13.1) K22.1) K31.1) K40.1) (Nat.le_of_eq ga45)) Aa45 (show Fld Z h46 a45 "com/example/quittance/quittance/AuditEntry" "action" "Lcom/example/quittance/quittance/AuditEntry$Action;" .null from Da45 (Or.inr (w56 hw)) (ty := (.object "com/example/quittance/quittance/AuditEntry$Action")) (by decide)) (show Fld Z h46 a45 "com/example/quittance/quittance/AuditEntry" "document" "Ljava/lang/String;" .null from Da45 (Or.inr (w58 hw)) (ty := (.object "java/lang/String")) (by decide)) (show Fld Z h46 a45 "com/example/quittance/quittance/AuditEntry" "invoice" "Ljava/lang/String;" .null from Da45 (Or.inr (w60 hw)) (ty := (.object "java/lang/String")) (by decide)) (show Fld Z h46 a45 "com/example/quittance/quittance/AuditEntry" "amount" "Lcom/example/quittance/quittance/Amount;" .null from Da45 (Or.inr (w62 hw)) (ty := (.object "com/example/quittance/quittance/Amount")) (by decide)) (show Fld Z h46 a45 "com/example/quittance/quittance/AuditEntry" "reasonCode" "Ljava/lang/String;" .null from Da45 (Or.inr (w64 hw)) (ty := (.object "java/lang/String")) (by decide))) at_138 pd_4 rfl (argsL := [(.ref (F1 ((x0 &&& (2147483647 : Int32)) % (14 : Int32)) s0 s1 s2 s3 s4 s5 s6 s7 s8 s9 s10 s11 s12 s13)), v2, v10, v28, v19]) (rest := [(.ref a45)]) rfl rfl (W := 1) rfl (by decide) (by decide) (by decide) (by decide) (pc' := 141) rfl ?_
  intro vh47 h47 qh47
  obtain ⟨rfl, Kh47, Fh47_0, Fh47_1, Fh47_2, Fh47_3, Fh47_4⟩ := qh47
  refine OG.ow (OG.astore C at_141 rfl (ls' := #[.val (.int x0), .val (.int x1), .val (.int x2), .val (.long x3), .second, .val (.long x4), .second, .val (.ref (F1 ((x0 &&& (2147483647 : Int32)) % (14 : Int32)) s0 s1 s2 s3 s4 s5 s6 s7 s8 s9 s10 s11 s12 s13)), .val v2, .val v10, .val v19, .val v28, .val v37, .val (.ref a45), .unset, .unset, .unset]) (by rcases ref_cases r39 with rfl | ⟨_, rfl⟩ <;> rfl) (pc' := 143) rfl) ?_
  refine OG.ow (OG.aload C at_143 rfl rfl (pc' := 145) rfl) ?_
  refine OG.ow (OG.aload C at_145 rfl r39 (pc' := 147) rfl) ?_
  have G48 := (Aa45.keep Kh47)
  refine OW.callV C (w65 hw) (w66 hw) (w68 hw) (w67 hw) (w50 hw) (w69 hw) (by decide) G48 (b10 hw a45 v37 r39 rfl r4 r12 r30 r21 (Nat.le_trans (Nat.le_trans (Nat.le_trans (Nat.le_trans (Nat.le_trans (Nat.le_trans (Nat.le_trans Z0 K5.1) K13.1) K22.1) K31.1) K40.1) Eh46.1) Kh47.1) Fh47_0 Fh47_1 Fh47_2 Fh47_3 Fh47_4) at_147 pd_8 rfl (argsL := [v37]) (rest := []) rfl rfl (W := 0) rfl (by decide) (by decide) (by decide) (by decide) (pc' := 150) rfl ?_
  intro vh49 h49 qh49
  obtain ⟨a50, rfl, ga50, Kh49, Ea50, Fh49_0, Fh49_1, Fh49_2, Fh49_3, Fh49_4⟩ := qh49
  refine OG.ow (OG.astore C at_150 rfl (ls' := #[.val (.int x0), .val (.int x1), .val (.int x2), .val (.long x3), .second, .val (.long x4), .second, .val (.ref (F1 ((x0 &&& (2147483647 : Int32)) % (14 : Int32)) s0 s1 s2 s3 s4 s5 s6 s7 s8 s9 s10 s11 s12 s13)), .val v2, .val v10, .val v19, .val v28, .val v37, .val (.ref a45), .val (.ref a50), .unset, .unset]) rfl (pc' := 152) rfl) ?_
  refine OG.ow (OG.aload C at_152 rfl rfl (pc' := 154) rfl) ?_
  refine OG.ow (OG.ifnonnullYes C at_154 (by decide) (pc' := 159) (by decide)) ?_
  refine OG.ow (OG.aload C at_159 rfl rfl (pc' := 161) rfl) ?_
  refine OG.ow (OG.callV C (w72 hw) (w73 hw) (w75 hw) (w74 hw) (w50 hw) (w76 hw) (by decide) Ea50 (b11 hw a50 rfl (Nat.le_trans (Nat.le_trans (Nat.le_trans (Nat.le_trans (Nat.le_trans (Nat.le_trans (Nat.le_trans (Nat.le_trans Z0 K5.1) K13.1) K22.1) K31.1) K40.1) Eh46.1) Kh47.1) Kh49.1) Fh49_0) at_161 pd_9 rfl (argsL := []) (rest := []) rfl rfl (W := 0) rfl (by decide) (by decide) (pc' := 164) rfl) ?_
  refine OG.ow (OG.aload C at_164 rfl rfl (pc' := 166) rfl) ?_
  refine OG.ow (OG.acmp C at_166 rfl rfl (same := true) (decide_eq_true rfl) (by decide) (pc' := 169) (by decide)) ?_
  refine OG.ow (OG.aload C at_169 rfl rfl (pc' := 171) rfl) ?_
  refine OG.ow (OG.callV C (w77 hw) (w78 hw) (w80 hw) (w79 hw) (w50 hw) (w81 hw) (by decide) Ea50 (b12 hw a50 r4 (Nat.le_trans (Nat.le_trans (Nat.le_trans (Nat.le_trans (Nat.le_trans (Nat.le_trans (Nat.le_trans (Nat.le_trans Z0 K5.1) K13.1) K22.1) K31.1) K40.1) Eh46.1) Kh47.1) Kh49.1) Fh49_1) at_171 pd_10 rfl (argsL := []) (rest := []) rfl rfl (W := 0) rfl (by decide) (by decide) (pc' := 174) rfl) ?_
  refine OG.ow (OG.aload C at_174 rfl r4 (pc' := 176) rfl) ?_
  refine OG.ow (OG.acmp C at_176 r4 r4 (same := true) (decide_eq_true rfl) (by decide) (pc' := 179) (by decide)) ?_
  refine OG.ow (OG.aload C at_179 rfl rfl (pc' := 181) rfl) ?_
  refine OG.ow (OG.callV C (w82 hw) (w83 hw) (w85 hw) (w84 hw) (w50 hw) (w86 hw) (by decide) Ea50 (b13 hw a50 r12 (Nat.le_trans (Nat.le_trans (Nat.le_trans (Nat.le_trans (Nat.le_trans (Nat.le_trans (Nat.le_trans (Nat.le_trans Z0 K5.1) K13.1) K22.1) K31.1) K40.1) Eh46.1) Kh47.1) Kh49.1) Fh49_2) at_181 pd_10 rfl (argsL := []) (rest := []) rfl rfl (W := 0) rfl (by decide) (by decide) (pc' := 184) rfl) ?_
  refine OG.ow (OG.aload C at_184 rfl r12 (pc' := 186) rfl) ?_
  refine OG.ow (OG.acmp C at_186 r12 r12 (same := true) (decide_eq_true rfl) (by decide) (pc' := 189) (by decide)) ?_
  refine OG.ow (OG.aload C at_189 rfl rfl (pc' := 191) rfl) ?_
  refine OG.ow (OG.callV C (w87 hw) (w88 hw) (w90 hw) (w89 hw) (w50 hw) (w91 hw) (by decide) Ea50 (b14 hw a50 r39 (Nat.le_trans (Nat.le_trans (Nat.le_trans (Nat.le_trans (Nat.le_trans (Nat.le_trans (Nat.le_trans (Nat.le_trans Z0 K5.1) K13.1) K22.1) K31.1) K40.1) Eh46.1) Kh47.1) Kh49.1) Fh49_3) at_191 pd_11 rfl (argsL := []) (rest := []) rfl rfl (W := 0) rfl (by decide) (by decide) (pc' := 194) rfl) ?_
  refine OG.ow (OG.aload C at_194 rfl r39 (pc' := 196) rfl) ?_
  refine OG.ow (OG.acmp C at_196 r39 r39 (same := true) (decide_eq_true rfl) (by decide) (pc' := 199) (by decide)) ?_
  refine OG.ow (OG.aload C at_199 rfl rfl (pc' := 201) rfl) ?_
  refine OG.ow (OG.callV C (w92 hw) (w93 hw) (w95 hw) (w94 hw) (w50 hw) (w96 hw) (by decide) Ea50 (b15 hw a50 r21 (Nat.le_trans (Nat.le_trans (Nat.le_trans (Nat.le_trans (Nat.le_trans (Nat.le_trans (Nat.le_trans (Nat.le_trans Z0 K5.1) K13.1) K22.1) K31.1) K40.1) Eh46.1) Kh47.1) Kh49.1) Fh49_4) at_201 pd_10 rfl (argsL := []) (rest := []) rfl rfl (W := 0) rfl (by decide) (by decide) (pc' := 204) rfl) ?_
  refine OG.ow (OG.aload C at_204 rfl r21 (pc' := 206) rfl) ?_
  refine OG.ow (OG.acmp C at_206 r21 r21 (same := true) (decide_eq_true rfl) (by decide) (pc' := 209) (by decide)) ?_
  refine OG.ow (OG.iconst C at_209 (z := (1 : Int32)) rfl (pc' := 210) rfl) ?_
  refine OG.ow (OG.goto C at_210 (by decide) (pc' := 214) (by decide)) ?_
  refine OG.ow (OG.istore C at_214 (ls' := #[.val (.int x0), .val (.int x1), .val (.int x2), .val (.long x3), .second, .val (.long x4), .second, .val (.ref (F1 ((x0 &&& (2147483647 : Int32)) % (14 : Int32)) s0 s1 s2 s3 s4 s5 s6 s7 s8 s9 s10 s11 s12 s13)), .val v2, .val v10, .val v19, .val v28, .val v37, .val (.ref a45), .val (.ref a50), .val (.int (1 : Int32)), .unset]) rfl (pc' := 216) rfl) ?_
  refine OG.ow (OG.aload C at_216 rfl rfl (pc' := 218) rfl) ?_
  have G51 := (Fh47_3.keep Kh49 nin0)
  have G52 := (G48.keep Kh49)
  refine OG.ow (OG.callV C (w87 hw) (w88 hw) (w90 hw) (w89 hw) (w50 hw) (w91 hw) (by decide) G52 (b14 hw a45 r30 (Nat.le_trans (Nat.le_trans (Nat.le_trans (Nat.le_trans (Nat.le_trans (Nat.le_trans (Nat.le_trans (Nat.le_trans Z0 K5.1) K13.1) K22.1) K31.1) K40.1) Eh46.1) Kh47.1) Kh49.1) G51) at_218 pd_11 rfl (argsL := []) (rest := []) rfl rfl (W := 0) rfl (by decide) (by decide) (pc' := 221) rfl) ?_
  refine OG.ow (OG.aload C at_221 rfl r30 (pc' := 223) rfl) ?_
  refine OG.ow (OG.acmp C at_223 r30 r30 (same := true) (decide_eq_true rfl) (by decide) (pc' := 226) (by decide)) ?_
  refine OG.ow (OG.iconst C at_226 (z := (1 : Int32)) rfl (pc' := 227) rfl) ?_
  refine OG.ow (OG.goto C at_227 (by decide) (pc' := 231) (by decide)) ?_
  refine OG.ow (OG.istore C at_231 (ls' := #[.val (.int x0), .val (.int x1), .val (.int x2), .val (.long x3), .second, .val (.long x4), .second, .val (.ref (F1 ((x0 &&& (2147483647 : Int32)) % (14 : Int32)) s0 s1 s2 s3 s4 s5 s6 s7 s8 s9 s10 s11 s12 s13)), .val v2, .val v10, .val v19, .val v28, .val v37, .val (.ref a45), .val (.ref a50), .val (.int (1 : Int32)), .val (.int (1 : Int32))]) rfl (pc' := 233) rfl) ?_
  refine OG.ow (OG.iload C at_233 rfl (pc' := 235) rfl) ?_
  refine OG.ow (OG.ifNo C at_235 ((if0 _ _).trans (feq (by decide : ¬ ((1 : Int32) = (0 : Int32)))).1) (pc' := 238) rfl) ?_
  refine OG.ow (OG.iload C at_238 rfl (pc' := 240) rfl) ?_
  refine OG.ow (OG.ifNo C at_240 ((if0 _ _).trans (feq (by decide : ¬ ((1 : Int32) = (0 : Int32)))).1) (pc' := 243) rfl) ?_
  refine OG.ow (OG.iconst C at_243 (z := (1 : Int32)) rfl (pc' := 244) rfl) ?_
  refine OG.ow (OG.goto C at_244 (by decide) (pc' := 248) (by decide)) ?_
  refine OW.retN (t := .boolean) C (by simp) at_248 (by decide) (by decide) ?_
  rfl
set_option maxRecDepth 65536 in
set_option maxHeartbeats 40000000 in
theorem comes_1 {Post : Tables → Env → Array Value → State → Outcome → State → Prop} (hpost : ∀ tb e args s v u, (limb_1_1.after args s (.returned v) u = true ∧ limb_1_2.after args s (.returned v) u = true ∧ True) → FrameEnd s (.returned v) u (Jvm.fieldLocs frame_1_writes args s ++ Jvm.arrayLocs frame_1_arrays args s ++ Jvm.staticLocs frame_1_statics s) 32 128 → Post tb e args s (.returned v) u) :
    ArmFor flags0 classFile x code maxLocals ret World_1 tables_1 room_1 Calls_1 rest_1 Pre_1 Post := by
  intro l hfl _ _ p e ha hc hk s m args below hf hA hF happ hP
  obtain ⟨hcalls, hrest, hpre⟩ := hP
  obtain ⟨-, -, -, hnamed, -, -, -, hat⟩ := (Spec.applies_iff hf).mp happ
  obtain ⟨hg, hn⟩ := and_e (Cond.before_iff.mp (show (Jvm.Cond.and given_1 narrow_1).before args s = true from hpre))
  obtain ⟨h1, q0⟩ := and_e hg
  obtain ⟨k0, q1⟩ := and_e q0
  obtain ⟨k1, q2⟩ := and_e q1
  obtain ⟨k2, q3⟩ := and_e q2
  obtain ⟨k3, q4⟩ := and_e q3
  obtain ⟨u0, u1, u2, u3, u4, rfl⟩ : ∃ u0 u1 u2 u3 u4 : Value, args = #[u0, u1, u2, u3, u4] := by
    have hs : args.size = 5 := by simpa [Cond.value, given_1] using h1
    obtain ⟨L⟩ := args
    match L, hs with
    | [u0, u1, u2, u3, u4], _ => exact ⟨u0, u1, u2, u3, u4, rfl⟩
  have hw : HW #[u0, u1, u2, u3, u4] s := fun d (hd : d ∈ tables_1) => atoms_spec (ws := Jvm.Cond.code x code maxLocals ret :: tables_1) hat d (List.mem_cons_of_mem _ hd)
  have hfit : Fit s := fun {y c} hc i hi => by
    obtain ⟨ha, rfl⟩ := Array.getElem?_eq_some_iff.mp hc
    have q := List.all_eq_true.mp ((Array.all_eq_true_iff_forall_mem.mp hF) _ (Array.getElem_mem ha)) i (List.mem_range.mpr hi)
    simpa [Array.getElem?_eq_getElem hi] using q
  obtain ⟨i0, e0⟩ := is_v k0
  obtain rfl : u0 = (.int i0) := Option.some.inj e0
  obtain ⟨i1, e1⟩ := is_v k1
  obtain rfl : u1 = (.int i1) := Option.some.inj e1
  obtain ⟨i2, e2⟩ := is_v k2
  obtain rfl : u2 = (.int i2) := Option.some.inj e2
  obtain ⟨i3, e3⟩ := isL_v k3
  obtain rfl : u3 = (.long i3) := Option.some.inj e3
  obtain ⟨i4, e4⟩ := isL_v q4
  obtain rfl : u4 = (.long i4) := Option.some.inj e4
  obtain ⟨hsets, hown0⟩ := atoms_of _ (rest_1_c_eq ▸ (show rest_1_c.before _ s = true from hrest))
  have ncs := not_v (Cond.before_iff.mp (hsets _ (List.mem_of_getElem? (i := 2) rfl)))
  obtain ⟨cs, ecs⟩ := is_v (Cond.before_iff.mp (hsets _ (List.mem_of_getElem? (i := 1) rfl)))
  have Scs : Sta s s.heap "java/lang/String" "COMPACT_STRINGS" "Z" (.int cs) := Sta.start ecs (Or.inl (hsets _ (List.mem_of_getElem? (i := 0) rfl)))
  have hcs : ¬ (cs = (0 : Int32)) := gotF (Cond.eq_ints ecs (Term.int_eval (0))) ncs
  obtain ⟨m0, mr0⟩ := and_e hn
  obtain ⟨m1, mr1⟩ := and_e mr0
  obtain ⟨m2, mr2⟩ := and_e mr1
  obtain ⟨m3, mr3⟩ := and_e mr2
  obtain ⟨m4, mr4⟩ := and_e mr3
  obtain ⟨m5, mr5⟩ := and_e mr4
  obtain ⟨m6, mr6⟩ := and_e mr5
  obtain ⟨m7, mr7⟩ := and_e mr6
  obtain ⟨m8, mr8⟩ := and_e mr7
  obtain ⟨m9, mr9⟩ := and_e mr8
  obtain ⟨m10, mr10⟩ := and_e mr9
  obtain ⟨m11, mr11⟩ := and_e mr10
  obtain ⟨m12, m13⟩ := and_e mr11
  obtain ⟨s0, r0⟩ := exa_v m0
  obtain ⟨s1, r1⟩ := exa_v m1
  obtain ⟨s2, r2⟩ := exa_v m2
  obtain ⟨s3, r3⟩ := exa_v m3
  obtain ⟨s4, r4⟩ := exa_v m4
  obtain ⟨s5, r5⟩ := exa_v m5
  obtain ⟨s6, r6⟩ := exa_v m6
  obtain ⟨s7, r7⟩ := exa_v m7
  obtain ⟨s8, r8⟩ := exa_v m8
  obtain ⟨s9, r9⟩ := exa_v m9
  obtain ⟨s10, r10⟩ := exa_v m10
  obtain ⟨s11, r11⟩ := exa_v m11
  obtain ⟨s12, r12⟩ := exa_v m12
  obtain ⟨s13, r13⟩ := exa_v m13
  obtain ⟨n, o, h1, h2, h3, _, L, rfl, ⟨hv, N⟩, hq⟩ := b0 (l := l) hw i0 i1 i2 i3 i4 (Nat.le_refl _) Scs hcs (Sta.start r0 (Or.inr ⟨(w6 hw), (w7 hw)⟩)) (Sta.start r1 (Or.inr ⟨(w6 hw), (w98 hw)⟩)) (Sta.start r2 (Or.inr ⟨(w6 hw), (w100 hw)⟩)) (Sta.start r3 (Or.inr ⟨(w6 hw), (w102 hw)⟩)) (Sta.start r4 (Or.inr ⟨(w6 hw), (w104 hw)⟩)) (Sta.start r5 (Or.inr ⟨(w6 hw), (w106 hw)⟩)) (Sta.start r6 (Or.inr ⟨(w6 hw), (w108 hw)⟩)) (Sta.start r7 (Or.inr ⟨(w6 hw), (w110 hw)⟩)) (Sta.start r8 (Or.inr ⟨(w6 hw), (w112 hw)⟩)) (Sta.start r9 (Or.inr ⟨(w6 hw), (w114 hw)⟩)) (Sta.start r10 (Or.inr ⟨(w6 hw), (w116 hw)⟩)) (Sta.start r11 (Or.inr ⟨(w6 hw), (w118 hw)⟩)) (Sta.start r12 (Or.inr ⟨(w6 hw), (w120 hw)⟩)) (Sta.start r13 (Or.inr ⟨(w6 hw), (w122 hw)⟩)) (n0 := s.heap.size) (h := s.heap) tables_1 p e ha hc hk s m _ below hf ((Spec.applies_iff_loose hf).mp happ).1 ⟨rfl, State.Warmed39.refl s, rfl⟩ trivial
  subst hv
  refine ⟨n, _, h1, h2, h3, hpost _ _ _ _ _ _ ⟨Cond.after_iff.mpr rfl, Cond.after_iff.mpr (eq_i res_at (Term.int_eval (1)) rfl), trivial⟩ ⟨hq.1, hq.2.1, (hq.2.2.sift fun y hy => Or.inr (N y hy)).mono (by decide) (by decide)⟩⟩
theorem main_1_1 : Claimed_1_1 := comes_1 fun _ _ _ _ _ _ h hF => ⟨h.1, hF⟩
theorem main_1_2 : Claimed_1_2 := comes_1 fun _ _ _ _ _ _ h hF => ⟨h.2.1, hF⟩
end Jvm.Pilot.@@N@@
namespace Jvm.Pilot.@@N@@
open Jvm Jvm.ClassFile Sem Op Lib Jvm.Free Jvm.Stand Jvm.Pilot.@@N@@.Jvm.D
/-! MADE BY PROGRAM (witnessworld.py) out of the Statement's table words and the real class files: 21 classes; the members and pool entries that the words name. The judged class is class 1, her method 1. -/
namespace start1
open Jvm.ClassFile
def u (s : String) : CpInfo := .utf8 (stringToUtf16 s)
/-- a pool by its gaps: so many unusable entries, then the entry; so many at the end -/
def gap : Nat → List CpInfo → List CpInfo
  | 0, r => r
  | n + 1, r => .unusable :: gap n r
def poolList (es : List (Nat × CpInfo)) (last : Nat) : List CpInfo := es.foldr (fun e r => gap e.1 (e.2 :: r)) (gap last [])
def pool (es : List (Nat × CpInfo)) (last : Nat) : Array CpInfo := ⟨poolList es last⟩
def fileOf (pool : Array CpInfo) (this : Nat) (attrs : Array Attribute := #[]) (ms : Array MethodInfo := #[]) (fl : Nat := 33) (sup : Nat := 0) (ifs : Array Nat := #[]) (fds : Array FieldInfo := #[]) : ClassFile where
  minorVersion := 0
  majorVersion := 65
  constantPool := pool
  accessFlags := fl
  thisClass := this
  superClass := sup
  interfaces := ifs
  fields := fds
  methods := ms
  attributes := attrs
def plain (name : String) (sup : Option ClassId) : Class where
  name := name
  kind := .ordinary
  loader := none
  accessFlags := 33
  super := sup
  interfaces := #[]
  cf := none
  fields := #[]
  methods := #[]
  instanceTypes := #[]
  staticTypes := #[]
  resolved := #[]
  callSites := []
  init := .initialized
  statics := none
  mirror := none

def pool0 : Array CpInfo := pool [(5, u "<init>"), (0, u "()V"), (1, .class_ 10), (1, u "java/lang/Object")] 113

def k0c0 : Code := { maxStack := 0, maxLocals := 1, code := object_method_1_code, exceptionTable := #[], attributes := #[] }
def k0m0 : Method := { name := "<init>", desc := "()V", sig := { parameters := [], returnType := none }, accessFlags := 1, code := some k0c0 }
/-- java/lang/Object -/
def k0 : Class := { plain "java/lang/Object" none with
  accessFlags := 33
  interfaces := #[]
  cf := some (fileOf pool0 8 #[] #[{ accessFlags := 1, nameIndex := 5, descriptorIndex := 6, attributes := #[] }] 33 0 #[] #[])
  fields := #[]
  methods := #[k0m0]
  instanceTypes := #[]
  staticTypes := #[]
  resolved := Array.replicate 124 none
  statics := none }

def pool1 : Array CpInfo := pool [(2, .class_ 4), (1, u "java/lang/Object"), (0, u "<init>"), (0, u "()V"), (0, .integer 2147483647), (0, .methodref 9 10), (0, .class_ 11), (0, .nameAndType 12 13), (0, u "com/example/quittance/quittance/AuditEntryWithAmountPinLaw"), (0, u "action"), (0, u "(I)Lcom/example/quittance/quittance/AuditEntry$Action;"), (0, .methodref 15 16), (0, .class_ 17), (0, .nameAndType 18 19), (0, u "java/lang/String"), (0, u "valueOf"), (0, u "(C)Ljava/lang/String;"), (0, .class_ 21), (0, u "com/example/quittance/quittance/Amount"), (0, .methodref 20 23), (0, .nameAndType 5 24), (0, u "(J)V"), (0, .class_ 26), (0, u "com/example/quittance/quittance/AuditEntry"), (0, .methodref 25 28), (0, .nameAndType 5 29), (0, u "(Lcom/example/quittance/quittance/AuditEntry$Action;Ljava/lang/String;Ljava/lang/String;Lcom/example/quittance/quittance/Amount;Ljava/lang/String;)V"), (0, .methodref 25 31), (0, .nameAndType 32 33), (0, u "withAmount"), (0, u "(Lcom/example/quittance/quittance/Amount;)Lcom/example/quittance/quittance/AuditEntry;"), (0, .methodref 25 35), (0, .nameAndType 12 36), (0, u "()Lcom/example/quittance/quittance/AuditEntry$Action;"), (0, .methodref 25 38), (0, .nameAndType 39 40), (0, u "document"), (0, u "()Ljava/lang/String;"), (0, .methodref 25 42), (0, .nameAndType 43 40), (0, u "invoice"), (0, .methodref 25 45), (0, .nameAndType 46 47), (0, u "amount"), (0, u "()Lcom/example/quittance/quittance/Amount;"), (0, .methodref 25 49), (0, .nameAndType 50 40), (0, u "reasonCode"), (0, .fieldref 52 53), (0, .class_ 54), (0, .nameAndType 55 56), (0, u "com/example/quittance/quittance/AuditEntry$Action"), (0, u "REASON_CODE_SET"), (0, u "Lcom/example/quittance/quittance/AuditEntry$Action;"), (0, .fieldref 52 58), (0, .nameAndType 59 56), (0, u "CUSTOMER_CREATED"), (0, .fieldref 52 61), (0, .nameAndType 62 56), (0, u "INVOICE_DRAFTED"), (0, .fieldref 52 64), (0, .nameAndType 65 56), (0, u "INVOICE_POSTED"), (0, .fieldref 52 67), (0, .nameAndType 68 56), (0, u "INVOICE_ADJUSTED"), (0, .fieldref 52 70), (0, .nameAndType 71 56), (0, u "PAYMENT_RECORDED"), (0, .fieldref 52 73), (0, .nameAndType 74 56), (0, u "PAYMENT_APPLIED"), (0, .fieldref 52 76), (0, .nameAndType 77 56), (0, u "PAYMENT_APPLICATION_REVERSED"), (0, .fieldref 52 79), (0, .nameAndType 80 56), (0, u "CUSTOMER_CREDIT_CREATED"), (0, .fieldref 52 82), (0, .nameAndType 83 56), (0, u "CREDIT_NOTE_DRAFTED"), (0, .fieldref 52 85), (0, .nameAndType 86 56), (0, u "CREDIT_MEMO_POSTED"), (0, .fieldref 52 88), (0, .nameAndType 89 56), (0, u "CREDIT_ALLOCATED"), (0, .fieldref 52 91), (0, .nameAndType 92 56), (0, u "CREDIT_REFUNDED"), (0, .fieldref 52 94), (0, .nameAndType 95 56), (0, u "CREDIT_NOTE_VOIDED"), (2, u "law"), (0, u "(IIIJJ)Z")] 5

def k1m0 : Method := { name := "<init>", desc := "()V", sig := { parameters := [], returnType := none }, accessFlags := 1, code := none }
def k1c1 : Code := { maxStack := 7, maxLocals := 17, code := code, exceptionTable := #[], attributes := #[] }
def k1m1 : Method := { name := "law", desc := "(IIIJJ)Z", sig := { parameters := [.int, .int, .int, .long, .long], returnType := some .boolean }, accessFlags := 9, code := some k1c1 }
def k1c2 : Code := { maxStack := 2, maxLocals := 1, code := method_3_code, exceptionTable := #[], attributes := #[] }
def k1m2 : Method := { name := "action", desc := "(I)Lcom/example/quittance/quittance/AuditEntry$Action;", sig := { parameters := [.int], returnType := some (.object "com/example/quittance/quittance/AuditEntry$Action") }, accessFlags := 10, code := some k1c2 }
/-- com/example/quittance/quittance/AuditEntryWithAmountPinLaw -/
def k1 : Class := { plain "com/example/quittance/quittance/AuditEntryWithAmountPinLaw" (some 0) with
  accessFlags := 49
  interfaces := #[]
  cf := some (fileOf pool1 9 #[] #[{ accessFlags := 1, nameIndex := 5, descriptorIndex := 6, attributes := #[] }, { accessFlags := 9, nameIndex := 98, descriptorIndex := 99, attributes := #[] }, { accessFlags := 10, nameIndex := 12, descriptorIndex := 13, attributes := #[] }] 49 2 #[] #[])
  fields := #[]
  methods := #[k1m0, k1m1, k1m2]
  instanceTypes := #[]
  staticTypes := #[]
  resolved := Array.replicate 105 none
  statics := none }

def pool2 : Array CpInfo := pool [(1, .class_ 2), (0, u "java/lang/constant/Constable"), (0, .class_ 4), (0, u "java/lang/Object")] 6

/-- java/lang/constant/Constable -/
def k2 : Class := { plain "java/lang/constant/Constable" (some 0) with
  accessFlags := 1537
  interfaces := #[]
  cf := some (fileOf pool2 1 #[] #[] 1537 3 #[] #[])
  fields := #[]
  methods := #[]
  instanceTypes := #[]
  staticTypes := #[]
  resolved := Array.replicate 11 none
  statics := none }

def pool3 : Array CpInfo := pool [(1, .class_ 2), (0, u "java/lang/Comparable"), (0, .class_ 4), (0, u "java/lang/Object")] 7

/-- java/lang/Comparable -/
def k3 : Class := { plain "java/lang/Comparable" (some 0) with
  accessFlags := 1537
  interfaces := #[]
  cf := some (fileOf pool3 1 #[] #[] 1537 3 #[] #[])
  fields := #[]
  methods := #[]
  instanceTypes := #[]
  staticTypes := #[]
  resolved := Array.replicate 12 none
  statics := none }

def pool4 : Array CpInfo := pool [(1, .class_ 2), (0, u "java/io/Serializable"), (0, .class_ 4), (0, u "java/lang/Object")] 2

/-- java/io/Serializable -/
def k4 : Class := { plain "java/io/Serializable" (some 0) with
  accessFlags := 1537
  interfaces := #[]
  cf := some (fileOf pool4 1 #[] #[] 1537 3 #[] #[])
  fields := #[]
  methods := #[]
  instanceTypes := #[]
  staticTypes := #[]
  resolved := Array.replicate 7 none
  statics := none }

def pool5 : Array CpInfo := pool [(2, .class_ 4), (1, u "java/lang/Enum"), (0, u "name"), (0, u "Ljava/lang/String;"), (2, u "ordinal"), (0, u "I"), (1, .class_ 14), (1, u "java/lang/Object"), (4, u "hash"), (86, .class_ 108), (1, u "java/lang/Enum$EnumDesc"), (2, .class_ 112), (0, u "java/lang/constant/Constable"), (0, .class_ 114), (0, u "java/lang/Comparable"), (0, .class_ 116), (0, u "java/io/Serializable")] 87

/-- java/lang/Enum -/
def k5 : Class := { plain "java/lang/Enum" (some 0) with
  accessFlags := 1057
  interfaces := #[2, 3, 4]
  cf := some (fileOf pool5 2 #[.nestMembers #[106]] #[] 1057 12 #[111, 113, 115] #[{ accessFlags := 18, nameIndex := 5, descriptorIndex := 6, attributes := #[] }, { accessFlags := 18, nameIndex := 9, descriptorIndex := 10, attributes := #[] }, { accessFlags := 2, nameIndex := 19, descriptorIndex := 10, attributes := #[] }])
  fields := #[{ name := "name", type := (.object "java/lang/String"), accessFlags := 18, slot := 0, constantValue := 0 }, { name := "ordinal", type := .int, accessFlags := 18, slot := 1, constantValue := 0 }, { name := "hash", type := .int, accessFlags := 2, slot := 2, constantValue := 0 }]
  methods := #[]
  instanceTypes := #[(.object "java/lang/String"), .int, .int]
  staticTypes := #[]
  resolved := Array.replicate 204 none
  statics := none }

def pool6 : Array CpInfo := pool [(1, .class_ 2), (0, u "com/example/quittance/quittance/AuditEntry$Action"), (2, u "REASON_CODE_SET"), (0, u "Lcom/example/quittance/quittance/AuditEntry$Action;"), (2, u "CUSTOMER_CREATED"), (2, u "INVOICE_DRAFTED"), (2, u "INVOICE_POSTED"), (2, u "INVOICE_ADJUSTED"), (2, u "PAYMENT_RECORDED"), (2, u "PAYMENT_APPLIED"), (2, u "PAYMENT_APPLICATION_REVERSED"), (2, u "CUSTOMER_CREDIT_CREATED"), (2, u "CREDIT_NOTE_DRAFTED"), (2, u "CREDIT_MEMO_POSTED"), (2, u "CREDIT_ALLOCATED"), (2, u "CREDIT_REFUNDED"), (2, u "CREDIT_NOTE_VOIDED"), (2, u "$VALUES"), (0, u "[Lcom/example/quittance/quittance/AuditEntry$Action;"), (6, .class_ 58), (1, u "java/lang/Enum"), (37, .class_ 97), (0, u "com/example/quittance/quittance/AuditEntry")] 2

/-- com/example/quittance/quittance/AuditEntry$Action -/
def k6 : Class := { plain "com/example/quittance/quittance/AuditEntry$Action" (some 5) with
  accessFlags := 16432
  interfaces := #[]
  cf := some (fileOf pool6 1 #[.nestHost 96] #[] 16432 56 #[] #[{ accessFlags := 16409, nameIndex := 5, descriptorIndex := 6, attributes := #[] }, { accessFlags := 16409, nameIndex := 9, descriptorIndex := 6, attributes := #[] }, { accessFlags := 16409, nameIndex := 12, descriptorIndex := 6, attributes := #[] }, { accessFlags := 16409, nameIndex := 15, descriptorIndex := 6, attributes := #[] }, { accessFlags := 16409, nameIndex := 18, descriptorIndex := 6, attributes := #[] }, { accessFlags := 16409, nameIndex := 21, descriptorIndex := 6, attributes := #[] }, { accessFlags := 16409, nameIndex := 24, descriptorIndex := 6, attributes := #[] }, { accessFlags := 16409, nameIndex := 27, descriptorIndex := 6, attributes := #[] }, { accessFlags := 16409, nameIndex := 30, descriptorIndex := 6, attributes := #[] }, { accessFlags := 16409, nameIndex := 33, descriptorIndex := 6, attributes := #[] }, { accessFlags := 16409, nameIndex := 36, descriptorIndex := 6, attributes := #[] }, { accessFlags := 16409, nameIndex := 39, descriptorIndex := 6, attributes := #[] }, { accessFlags := 16409, nameIndex := 42, descriptorIndex := 6, attributes := #[] }, { accessFlags := 16409, nameIndex := 45, descriptorIndex := 6, attributes := #[] }, { accessFlags := 4122, nameIndex := 48, descriptorIndex := 49, attributes := #[] }])
  fields := #[{ name := "REASON_CODE_SET", type := (.object "com/example/quittance/quittance/AuditEntry$Action"), accessFlags := 16409, slot := 0, constantValue := 0 }, { name := "CUSTOMER_CREATED", type := (.object "com/example/quittance/quittance/AuditEntry$Action"), accessFlags := 16409, slot := 1, constantValue := 0 }, { name := "INVOICE_DRAFTED", type := (.object "com/example/quittance/quittance/AuditEntry$Action"), accessFlags := 16409, slot := 2, constantValue := 0 }, { name := "INVOICE_POSTED", type := (.object "com/example/quittance/quittance/AuditEntry$Action"), accessFlags := 16409, slot := 3, constantValue := 0 }, { name := "INVOICE_ADJUSTED", type := (.object "com/example/quittance/quittance/AuditEntry$Action"), accessFlags := 16409, slot := 4, constantValue := 0 }, { name := "PAYMENT_RECORDED", type := (.object "com/example/quittance/quittance/AuditEntry$Action"), accessFlags := 16409, slot := 5, constantValue := 0 }, { name := "PAYMENT_APPLIED", type := (.object "com/example/quittance/quittance/AuditEntry$Action"), accessFlags := 16409, slot := 6, constantValue := 0 }, { name := "PAYMENT_APPLICATION_REVERSED", type := (.object "com/example/quittance/quittance/AuditEntry$Action"), accessFlags := 16409, slot := 7, constantValue := 0 }, { name := "CUSTOMER_CREDIT_CREATED", type := (.object "com/example/quittance/quittance/AuditEntry$Action"), accessFlags := 16409, slot := 8, constantValue := 0 }, { name := "CREDIT_NOTE_DRAFTED", type := (.object "com/example/quittance/quittance/AuditEntry$Action"), accessFlags := 16409, slot := 9, constantValue := 0 }, { name := "CREDIT_MEMO_POSTED", type := (.object "com/example/quittance/quittance/AuditEntry$Action"), accessFlags := 16409, slot := 10, constantValue := 0 }, { name := "CREDIT_ALLOCATED", type := (.object "com/example/quittance/quittance/AuditEntry$Action"), accessFlags := 16409, slot := 11, constantValue := 0 }, { name := "CREDIT_REFUNDED", type := (.object "com/example/quittance/quittance/AuditEntry$Action"), accessFlags := 16409, slot := 12, constantValue := 0 }, { name := "CREDIT_NOTE_VOIDED", type := (.object "com/example/quittance/quittance/AuditEntry$Action"), accessFlags := 16409, slot := 13, constantValue := 0 }, { name := "$VALUES", type := (.array (.object "com/example/quittance/quittance/AuditEntry$Action")), accessFlags := 4122, slot := 14, constantValue := 0 }]
  methods := #[]
  instanceTypes := #[(.object "java/lang/String"), .int, .int]
  staticTypes := #[(.object "com/example/quittance/quittance/AuditEntry$Action"), (.object "com/example/quittance/quittance/AuditEntry$Action"), (.object "com/example/quittance/quittance/AuditEntry$Action"), (.object "com/example/quittance/quittance/AuditEntry$Action"), (.object "com/example/quittance/quittance/AuditEntry$Action"), (.object "com/example/quittance/quittance/AuditEntry$Action"), (.object "com/example/quittance/quittance/AuditEntry$Action"), (.object "com/example/quittance/quittance/AuditEntry$Action"), (.object "com/example/quittance/quittance/AuditEntry$Action"), (.object "com/example/quittance/quittance/AuditEntry$Action"), (.object "com/example/quittance/quittance/AuditEntry$Action"), (.object "com/example/quittance/quittance/AuditEntry$Action"), (.object "com/example/quittance/quittance/AuditEntry$Action"), (.object "com/example/quittance/quittance/AuditEntry$Action"), (.array (.object "com/example/quittance/quittance/AuditEntry$Action"))]
  resolved := Array.replicate 100 none
  statics := some 0 }

def pool7 : Array CpInfo := pool [(2, .class_ 4), (1, u "java/lang/CharSequence"), (42, .class_ 48), (0, u "java/lang/CharSequence$1CodePointIterator"), (10, .class_ 60), (0, u "java/lang/CharSequence$1CharIterator"), (5, .class_ 67), (0, u "java/lang/Object")] 63

/-- java/lang/CharSequence -/
def k7 : Class := { plain "java/lang/CharSequence" (some 0) with
  accessFlags := 1537
  interfaces := #[]
  cf := some (fileOf pool7 2 #[.nestMembers #[47, 59]] #[] 1537 66 #[] #[])
  fields := #[]
  methods := #[]
  instanceTypes := #[]
  staticTypes := #[]
  resolved := Array.replicate 131 none
  statics := none }

def pool8 : Array CpInfo := pool [(1, .class_ 2), (0, u "java/lang/constant/ConstantDesc"), (0, .class_ 4), (0, u "java/lang/Object")] 32

/-- java/lang/constant/ConstantDesc -/
def k8 : Class := { plain "java/lang/constant/ConstantDesc" (some 0) with
  accessFlags := 1537
  interfaces := #[]
  cf := some (fileOf pool8 1 #[] #[] 1537 3 #[] #[])
  fields := #[]
  methods := #[]
  instanceTypes := #[]
  staticTypes := #[]
  resolved := Array.replicate 37 none
  statics := none }

def pool9 : Array CpInfo := pool [(1, .methodref 2 3), (0, .class_ 4), (0, .nameAndType 5 6), (0, u "java/lang/Object"), (0, u "<init>"), (0, u "()V"), (2, .fieldref 10 11), (0, .class_ 12), (0, .nameAndType 13 14), (0, u "java/lang/String"), (0, u "value"), (0, u "[B"), (0, .fieldref 10 16), (0, .nameAndType 17 18), (0, u "coder"), (0, u "B"), (2, u "hash"), (0, u "I"), (2, u "hashIsZero"), (0, u "Z"), (11, .fieldref 10 39), (0, .nameAndType 40 26), (0, u "COMPACT_STRINGS"), (12, u "toBytes"), (53, .class_ 109), (1, u "java/lang/StringLatin1"), (99, .methodref 10 210), (0, .nameAndType 5 211), (0, u "([BB)V"), (157, u "(C)Z"), (205, .class_ 576), (0, u "java/lang/CharSequence"), (22, u "CASE_INSENSITIVE_ORDER"), (0, u "Ljava/util/Comparator;"), (181, u "valueOf"), (0, u "(C)Ljava/lang/String;"), (231, .methodref 107 1016), (0, .nameAndType 1017 369), (0, u "canEncode"), (0, .methodref 107 1019), (0, .nameAndType 53 1020), (0, u "(C)[B"), (80, u "serialPersistentFields"), (0, u "[Ljava/io/ObjectStreamField;"), (0, .class_ 1104), (0, u "java/lang/String$CaseInsensitiveComparator"), (1, .class_ 1107), (0, u "java/io/Serializable"), (0, .class_ 1109), (0, u "java/lang/Comparable"), (0, .class_ 1111), (0, u "java/lang/constant/Constable"), (0, .class_ 1113), (0, u "java/lang/constant/ConstantDesc"), (2, u "serialVersionUID"), (0, u "J"), (3, u "REPL"), (0, u "C"), (2, u "LATIN1"), (1, u "UTF16")] 323

def k9m0 : Method := { name := "<init>", desc := "()V", sig := { parameters := [], returnType := none }, accessFlags := 1, code := none }
def k9c1 : Code := { maxStack := 4, maxLocals := 1, code := jdk_42_method_139_code, exceptionTable := #[], attributes := #[] }
def k9m1 : Method := { name := "valueOf", desc := "(C)Ljava/lang/String;", sig := { parameters := [.char], returnType := some (.object "java/lang/String") }, accessFlags := 9, code := some k9c1 }
def k9c2 : Code := { maxStack := 2, maxLocals := 3, code := jdk_42_method_151_code, exceptionTable := #[], attributes := #[] }
def k9m2 : Method := { name := "<init>", desc := "([BB)V", sig := { parameters := [(.array .byte), .byte], returnType := none }, accessFlags := 0, code := some k9c2 }
/-- java/lang/String -/
def k9 : Class := { plain "java/lang/String" (some 0) with
  accessFlags := 49
  interfaces := #[4, 3, 7, 2, 8]
  cf := some (fileOf pool9 10 #[.nestMembers #[1103]] #[{ accessFlags := 1, nameIndex := 5, descriptorIndex := 6, attributes := #[] }, { accessFlags := 9, nameIndex := 782, descriptorIndex := 783, attributes := #[] }, { accessFlags := 0, nameIndex := 5, descriptorIndex := 211, attributes := #[] }] 49 2 #[1106, 1108, 575, 1110, 1112] #[{ accessFlags := 18, nameIndex := 13, descriptorIndex := 14, attributes := #[] }, { accessFlags := 18, nameIndex := 17, descriptorIndex := 18, attributes := #[] }, { accessFlags := 2, nameIndex := 21, descriptorIndex := 22, attributes := #[] }, { accessFlags := 2, nameIndex := 25, descriptorIndex := 26, attributes := #[] }, { accessFlags := 26, nameIndex := 1116, descriptorIndex := 1117, attributes := #[] }, { accessFlags := 24, nameIndex := 40, descriptorIndex := 26, attributes := #[] }, { accessFlags := 26, nameIndex := 1101, descriptorIndex := 1102, attributes := #[] }, { accessFlags := 26, nameIndex := 1121, descriptorIndex := 1122, attributes := #[] }, { accessFlags := 25, nameIndex := 599, descriptorIndex := 600, attributes := #[] }, { accessFlags := 24, nameIndex := 1125, descriptorIndex := 18, attributes := #[] }, { accessFlags := 24, nameIndex := 1127, descriptorIndex := 18, attributes := #[] }])
  fields := #[{ name := "value", type := (.array .byte), accessFlags := 18, slot := 0, constantValue := 0 }, { name := "coder", type := .byte, accessFlags := 18, slot := 1, constantValue := 0 }, { name := "hash", type := .int, accessFlags := 2, slot := 2, constantValue := 0 }, { name := "hashIsZero", type := .boolean, accessFlags := 2, slot := 3, constantValue := 0 }, { name := "serialVersionUID", type := .long, accessFlags := 26, slot := 0, constantValue := 0 }, { name := "COMPACT_STRINGS", type := .boolean, accessFlags := 24, slot := 1, constantValue := 0 }, { name := "serialPersistentFields", type := (.array (.object "java/io/ObjectStreamField")), accessFlags := 26, slot := 2, constantValue := 0 }, { name := "REPL", type := .char, accessFlags := 26, slot := 3, constantValue := 0 }, { name := "CASE_INSENSITIVE_ORDER", type := (.object "java/util/Comparator"), accessFlags := 25, slot := 4, constantValue := 0 }, { name := "LATIN1", type := .byte, accessFlags := 24, slot := 5, constantValue := 0 }, { name := "UTF16", type := .byte, accessFlags := 24, slot := 6, constantValue := 0 }]
  methods := #[k9m0, k9m1, k9m2]
  instanceTypes := #[(.array .byte), .byte, .int, .boolean]
  staticTypes := #[.long, .boolean, (.array (.object "java/io/ObjectStreamField")), .char, (.object "java/util/Comparator"), .byte, .byte]
  resolved := Array.replicate 1451 none
  statics := some 1 }

def pool10 : Array CpInfo := pool [(4, .class_ 6), (1, u "java/lang/Object"), (0, u "<init>"), (0, u "()V"), (5, .class_ 16), (1, u "java/lang/StringLatin1"), (73, u "canEncode"), (14, u "(C)Z"), (15, u "$assertionsDisabled"), (0, u "Z"), (98, .class_ 223), (1, u "java/lang/StringLatin1$LinesSpliterator"), (156, u "toBytes"), (1, u "(C)[B"), (7, .class_ 391), (0, u "java/lang/StringLatin1$CharsSpliterator")] 3

def k10m0 : Method := { name := "<init>", desc := "()V", sig := { parameters := [], returnType := none }, accessFlags := 0, code := none }
def k10c1 : Code := { maxStack := 2, maxLocals := 1, code := jdk_43_method_3_code, exceptionTable := #[], attributes := #[] }
def k10m1 : Method := { name := "canEncode", desc := "(C)Z", sig := { parameters := [.char], returnType := some .boolean }, accessFlags := 9, code := some k10c1 }
def k10c2 : Code := { maxStack := 4, maxLocals := 1, code := jdk_43_method_46_code, exceptionTable := #[], attributes := #[] }
def k10m2 : Method := { name := "toBytes", desc := "(C)[B", sig := { parameters := [.char], returnType := some (.array .byte) }, accessFlags := 9, code := some k10c2 }
/-- java/lang/StringLatin1 -/
def k10 : Class := { plain "java/lang/StringLatin1" (some 0) with
  accessFlags := 48
  interfaces := #[]
  cf := some (fileOf pool10 14 #[.nestMembers #[390, 221]] #[{ accessFlags := 0, nameIndex := 7, descriptorIndex := 8, attributes := #[] }, { accessFlags := 9, nameIndex := 90, descriptorIndex := 105, attributes := #[] }, { accessFlags := 9, nameIndex := 380, descriptorIndex := 382, attributes := #[] }] 48 4 #[] #[{ accessFlags := 4120, nameIndex := 121, descriptorIndex := 122, attributes := #[] }])
  fields := #[{ name := "$assertionsDisabled", type := .boolean, accessFlags := 4120, slot := 0, constantValue := 0 }]
  methods := #[k10m0, k10m1, k10m2]
  instanceTypes := #[]
  staticTypes := #[.boolean]
  resolved := Array.replicate 395 none
  statics := none }

def pool11 : Array CpInfo := pool [(1, .methodref 2 3), (0, .class_ 4), (0, .nameAndType 5 6), (0, u "java/lang/Object"), (0, u "<init>"), (0, u "()V"), (0, .class_ 8), (0, u "java/lang/Record")] 13

def k11c0 : Code := { maxStack := 1, maxLocals := 1, code := jdk_30_method_1_code, exceptionTable := #[], attributes := #[] }
def k11m0 : Method := { name := "<init>", desc := "()V", sig := { parameters := [], returnType := none }, accessFlags := 4, code := some k11c0 }
/-- java/lang/Record -/
def k11 : Class := { plain "java/lang/Record" (some 0) with
  accessFlags := 1057
  interfaces := #[]
  cf := some (fileOf pool11 7 #[] #[{ accessFlags := 4, nameIndex := 5, descriptorIndex := 6, attributes := #[] }] 1057 2 #[] #[])
  fields := #[]
  methods := #[k11m0]
  instanceTypes := #[]
  staticTypes := #[]
  resolved := Array.replicate 22 none
  statics := none }

def pool12 : Array CpInfo := pool [(1, .methodref 2 3), (0, .class_ 4), (0, .nameAndType 5 6), (0, u "java/lang/Record"), (0, u "<init>"), (0, u "()V"), (0, .fieldref 8 9), (0, .class_ 10), (0, .nameAndType 11 12), (0, u "com/example/quittance/quittance/Amount"), (0, u "cents"), (0, u "J"), (8, u "REQUEST_FORM"), (0, u "Ljava/util/regex/Pattern;"), (51, u "(J)V"), (95, u "ZERO"), (0, u "Lcom/example/quittance/quittance/Amount;"), (6, u "LIMIT_WHOLE_DIGITS"), (0, u "I"), (2, u "LIMIT_CENTS"), (0, u "PAST_LIMIT"), (0, u "Ljava/lang/String;")] 45

def k12c0 : Code := { maxStack := 3, maxLocals := 3, code := prog_2_method_1_code, exceptionTable := #[], attributes := #[] }
def k12m0 : Method := { name := "<init>", desc := "(J)V", sig := { parameters := [.long], returnType := none }, accessFlags := 1, code := some k12c0 }
/-- com/example/quittance/quittance/Amount -/
def k12 : Class := { plain "com/example/quittance/quittance/Amount" (some 11) with
  accessFlags := 49
  interfaces := #[]
  cf := some (fileOf pool12 8 #[] #[{ accessFlags := 1, nameIndex := 5, descriptorIndex := 74, attributes := #[] }] 49 2 #[] #[{ accessFlags := 18, nameIndex := 11, descriptorIndex := 12, attributes := #[] }, { accessFlags := 25, nameIndex := 170, descriptorIndex := 171, attributes := #[] }, { accessFlags := 26, nameIndex := 178, descriptorIndex := 179, attributes := #[] }, { accessFlags := 26, nameIndex := 182, descriptorIndex := 12, attributes := #[] }, { accessFlags := 26, nameIndex := 183, descriptorIndex := 184, attributes := #[] }, { accessFlags := 26, nameIndex := 21, descriptorIndex := 22, attributes := #[] }])
  fields := #[{ name := "cents", type := .long, accessFlags := 18, slot := 0, constantValue := 0 }, { name := "ZERO", type := (.object "com/example/quittance/quittance/Amount"), accessFlags := 25, slot := 0, constantValue := 0 }, { name := "LIMIT_WHOLE_DIGITS", type := .int, accessFlags := 26, slot := 1, constantValue := 0 }, { name := "LIMIT_CENTS", type := .long, accessFlags := 26, slot := 2, constantValue := 0 }, { name := "PAST_LIMIT", type := (.object "java/lang/String"), accessFlags := 26, slot := 3, constantValue := 0 }, { name := "REQUEST_FORM", type := (.object "java/util/regex/Pattern"), accessFlags := 26, slot := 4, constantValue := 0 }]
  methods := #[k12m0]
  instanceTypes := #[.long]
  staticTypes := #[(.object "com/example/quittance/quittance/Amount"), .int, .long, (.object "java/lang/String"), (.object "java/util/regex/Pattern")]
  resolved := Array.replicate 230 none
  statics := none }

def pool13 : Array CpInfo := pool [(1, .methodref 2 3), (0, .class_ 4), (0, .nameAndType 5 6), (0, u "java/lang/Record"), (0, u "<init>"), (0, u "()V"), (0, .fieldref 8 9), (0, .class_ 10), (0, .nameAndType 11 12), (0, u "com/example/quittance/quittance/AuditEntry"), (0, u "action"), (0, u "Lcom/example/quittance/quittance/AuditEntry$Action;"), (0, .fieldref 8 14), (0, .nameAndType 15 16), (0, u "document"), (0, u "Ljava/lang/String;"), (0, .fieldref 8 18), (0, .nameAndType 19 16), (0, u "invoice"), (0, .fieldref 8 21), (0, .nameAndType 22 23), (0, u "amount"), (0, u "Lcom/example/quittance/quittance/Amount;"), (0, .fieldref 8 25), (0, .nameAndType 26 16), (0, u "reasonCode"), (0, .methodref 8 28), (0, .nameAndType 5 29), (0, u "(Lcom/example/quittance/quittance/AuditEntry$Action;Ljava/lang/String;Ljava/lang/String;Lcom/example/quittance/quittance/Amount;Ljava/lang/String;)V"), (19, u "withAmount"), (0, u "(Lcom/example/quittance/quittance/Amount;)Lcom/example/quittance/quittance/AuditEntry;"), (1, u "()Ljava/lang/String;"), (2, u "()Lcom/example/quittance/quittance/AuditEntry$Action;"), (0, u "()Lcom/example/quittance/quittance/Amount;"), (3, .class_ 61), (0, u "com/example/quittance/quittance/AuditEntry$Action")] 23

def k13c0 : Code := { maxStack := 2, maxLocals := 6, code := prog_3_method_1_code, exceptionTable := #[], attributes := #[] }
def k13m0 : Method := { name := "<init>", desc := "(Lcom/example/quittance/quittance/AuditEntry$Action;Ljava/lang/String;Ljava/lang/String;Lcom/example/quittance/quittance/Amount;Ljava/lang/String;)V", sig := { parameters := [(.object "com/example/quittance/quittance/AuditEntry$Action"), (.object "java/lang/String"), (.object "java/lang/String"), (.object "com/example/quittance/quittance/Amount"), (.object "java/lang/String")], returnType := none }, accessFlags := 0, code := some k13c0 }
def k13c1 : Code := { maxStack := 7, maxLocals := 2, code := prog_3_method_4_code, exceptionTable := #[], attributes := #[] }
def k13m1 : Method := { name := "withAmount", desc := "(Lcom/example/quittance/quittance/Amount;)Lcom/example/quittance/quittance/AuditEntry;", sig := { parameters := [(.object "com/example/quittance/quittance/Amount")], returnType := some (.object "com/example/quittance/quittance/AuditEntry") }, accessFlags := 0, code := some k13c1 }
def k13c2 : Code := { maxStack := 1, maxLocals := 1, code := prog_3_method_9_code, exceptionTable := #[], attributes := #[] }
def k13m2 : Method := { name := "action", desc := "()Lcom/example/quittance/quittance/AuditEntry$Action;", sig := { parameters := [], returnType := some (.object "com/example/quittance/quittance/AuditEntry$Action") }, accessFlags := 1, code := some k13c2 }
def k13c3 : Code := { maxStack := 1, maxLocals := 1, code := prog_3_method_10_code, exceptionTable := #[], attributes := #[] }
def k13m3 : Method := { name := "document", desc := "()Ljava/lang/String;", sig := { parameters := [], returnType := some (.object "java/lang/String") }, accessFlags := 1, code := some k13c3 }
def k13c4 : Code := { maxStack := 1, maxLocals := 1, code := prog_3_method_11_code, exceptionTable := #[], attributes := #[] }
def k13m4 : Method := { name := "invoice", desc := "()Ljava/lang/String;", sig := { parameters := [], returnType := some (.object "java/lang/String") }, accessFlags := 1, code := some k13c4 }
def k13c5 : Code := { maxStack := 1, maxLocals := 1, code := prog_3_method_12_code, exceptionTable := #[], attributes := #[] }
def k13m5 : Method := { name := "amount", desc := "()Lcom/example/quittance/quittance/Amount;", sig := { parameters := [], returnType := some (.object "com/example/quittance/quittance/Amount") }, accessFlags := 1, code := some k13c5 }
def k13c6 : Code := { maxStack := 1, maxLocals := 1, code := prog_3_method_13_code, exceptionTable := #[], attributes := #[] }
def k13m6 : Method := { name := "reasonCode", desc := "()Ljava/lang/String;", sig := { parameters := [], returnType := some (.object "java/lang/String") }, accessFlags := 1, code := some k13c6 }
/-- com/example/quittance/quittance/AuditEntry -/
def k13 : Class := { plain "com/example/quittance/quittance/AuditEntry" (some 11) with
  accessFlags := 48
  interfaces := #[]
  cf := some (fileOf pool13 8 #[.nestMembers #[60]] #[{ accessFlags := 0, nameIndex := 5, descriptorIndex := 29, attributes := #[] }, { accessFlags := 0, nameIndex := 49, descriptorIndex := 50, attributes := #[] }, { accessFlags := 1, nameIndex := 11, descriptorIndex := 55, attributes := #[] }, { accessFlags := 1, nameIndex := 15, descriptorIndex := 52, attributes := #[] }, { accessFlags := 1, nameIndex := 19, descriptorIndex := 52, attributes := #[] }, { accessFlags := 1, nameIndex := 22, descriptorIndex := 56, attributes := #[] }, { accessFlags := 1, nameIndex := 26, descriptorIndex := 52, attributes := #[] }] 48 2 #[] #[{ accessFlags := 18, nameIndex := 11, descriptorIndex := 12, attributes := #[] }, { accessFlags := 18, nameIndex := 15, descriptorIndex := 16, attributes := #[] }, { accessFlags := 18, nameIndex := 19, descriptorIndex := 16, attributes := #[] }, { accessFlags := 18, nameIndex := 22, descriptorIndex := 23, attributes := #[] }, { accessFlags := 18, nameIndex := 26, descriptorIndex := 16, attributes := #[] }])
  fields := #[{ name := "action", type := (.object "com/example/quittance/quittance/AuditEntry$Action"), accessFlags := 18, slot := 0, constantValue := 0 }, { name := "document", type := (.object "java/lang/String"), accessFlags := 18, slot := 1, constantValue := 0 }, { name := "invoice", type := (.object "java/lang/String"), accessFlags := 18, slot := 2, constantValue := 0 }, { name := "amount", type := (.object "com/example/quittance/quittance/Amount"), accessFlags := 18, slot := 3, constantValue := 0 }, { name := "reasonCode", type := (.object "java/lang/String"), accessFlags := 18, slot := 4, constantValue := 0 }]
  methods := #[k13m0, k13m1, k13m2, k13m3, k13m4, k13m5, k13m6]
  instanceTypes := #[(.object "com/example/quittance/quittance/AuditEntry$Action"), (.object "java/lang/String"), (.object "java/lang/String"), (.object "com/example/quittance/quittance/Amount"), (.object "java/lang/String")]
  staticTypes := #[]
  resolved := Array.replicate 85 none
  statics := none }

def pool14 : Array CpInfo := pool [(2, .class_ 4), (1, u "java/lang/Object"), (0, u "<init>"), (0, u "()V"), (17, .class_ 26), (1, u "jdk/internal/util/Preconditions"), (28, .class_ 56), (0, u "jdk/internal/util/Preconditions$4"), (57, .class_ 115), (0, u "jdk/internal/util/Preconditions$1"), (7, u "SIOOBE_FORMATTER"), (0, u "Ljava/util/function/BiFunction;"), (0, .class_ 126), (0, u "jdk/internal/util/Preconditions$2"), (3, u "AIOOBE_FORMATTER"), (0, .class_ 132), (0, u "jdk/internal/util/Preconditions$3"), (3, u "IOOBE_FORMATTER")] 57

def k14m0 : Method := { name := "<init>", desc := "()V", sig := { parameters := [], returnType := none }, accessFlags := 1, code := none }
/-- jdk/internal/util/Preconditions -/
def k14 : Class := { plain "jdk/internal/util/Preconditions" (some 0) with
  accessFlags := 33
  interfaces := #[]
  cf := some (fileOf pool14 24 #[.nestMembers #[55, 131, 125, 114]] #[{ accessFlags := 1, nameIndex := 5, descriptorIndex := 6, attributes := #[] }] 33 2 #[] #[{ accessFlags := 25, nameIndex := 123, descriptorIndex := 124, attributes := #[] }, { accessFlags := 25, nameIndex := 130, descriptorIndex := 124, attributes := #[] }, { accessFlags := 25, nameIndex := 136, descriptorIndex := 124, attributes := #[] }])
  fields := #[{ name := "SIOOBE_FORMATTER", type := (.object "java/util/function/BiFunction"), accessFlags := 25, slot := 0, constantValue := 0 }, { name := "AIOOBE_FORMATTER", type := (.object "java/util/function/BiFunction"), accessFlags := 25, slot := 1, constantValue := 0 }, { name := "IOOBE_FORMATTER", type := (.object "java/util/function/BiFunction"), accessFlags := 25, slot := 2, constantValue := 0 }]
  methods := #[k14m0]
  instanceTypes := #[]
  staticTypes := #[(.object "java/util/function/BiFunction"), (.object "java/util/function/BiFunction"), (.object "java/util/function/BiFunction")]
  resolved := Array.replicate 194 none
  statics := some 2 }

def pool15 : Array CpInfo := pool [(9, u "<init>"), (6, .class_ 18), (1, u "java/lang/Object"), (0, u "()V"), (1, .class_ 23), (1, u "jdk/internal/util/ArraysSupport"), (0, u "LOG2_ARRAY_LONG_INDEX_SCALE"), (0, u "I"), (2, u "U"), (0, u "Ljdk/internal/misc/Unsafe;"), (8, u "BIG_ENDIAN"), (0, u "Z"), (8, u "LOG2_BYTE_BIT_SIZE"), (4, u "LOG2_ARRAY_INT_INDEX_SCALE"), (54, u "JLA"), (0, u "Ljdk/internal/access/JavaLangAccess;"), (11, u "LOG2_ARRAY_BOOLEAN_INDEX_SCALE"), (9, u "LOG2_ARRAY_BYTE_INDEX_SCALE"), (5, u "LOG2_ARRAY_CHAR_INDEX_SCALE"), (5, u "LOG2_ARRAY_SHORT_INDEX_SCALE"), (18, u "LOG2_ARRAY_FLOAT_INDEX_SCALE"), (24, u "LOG2_ARRAY_DOUBLE_INDEX_SCALE"), (89, u "T_BOOLEAN"), (2, u "T_CHAR"), (1, u "T_FLOAT"), (1, u "T_DOUBLE"), (1, u "T_BYTE"), (1, u "T_SHORT"), (1, u "T_INT"), (1, u "T_LONG"), (1, u "SOFT_MAX_ARRAY_LENGTH")] 83

def k15m0 : Method := { name := "<init>", desc := "()V", sig := { parameters := [], returnType := none }, accessFlags := 2, code := none }
/-- jdk/internal/util/ArraysSupport -/
def k15 : Class := { plain "jdk/internal/util/ArraysSupport" (some 0) with
  accessFlags := 33
  interfaces := #[]
  cf := some (fileOf pool15 21 #[] #[{ accessFlags := 2, nameIndex := 9, descriptorIndex := 19, attributes := #[] }] 33 16 #[] #[{ accessFlags := 24, nameIndex := 28, descriptorIndex := 29, attributes := #[] }, { accessFlags := 26, nameIndex := 38, descriptorIndex := 39, attributes := #[] }, { accessFlags := 25, nameIndex := 121, descriptorIndex := 25, attributes := #[] }, { accessFlags := 25, nameIndex := 131, descriptorIndex := 25, attributes := #[] }, { accessFlags := 25, nameIndex := 137, descriptorIndex := 25, attributes := #[] }, { accessFlags := 25, nameIndex := 143, descriptorIndex := 25, attributes := #[] }, { accessFlags := 25, nameIndex := 53, descriptorIndex := 25, attributes := #[] }, { accessFlags := 25, nameIndex := 24, descriptorIndex := 25, attributes := #[] }, { accessFlags := 25, nameIndex := 162, descriptorIndex := 25, attributes := #[] }, { accessFlags := 25, nameIndex := 187, descriptorIndex := 25, attributes := #[] }, { accessFlags := 26, nameIndex := 48, descriptorIndex := 25, attributes := #[] }, { accessFlags := 25, nameIndex := 277, descriptorIndex := 25, attributes := #[] }, { accessFlags := 25, nameIndex := 280, descriptorIndex := 25, attributes := #[] }, { accessFlags := 25, nameIndex := 282, descriptorIndex := 25, attributes := #[] }, { accessFlags := 25, nameIndex := 284, descriptorIndex := 25, attributes := #[] }, { accessFlags := 25, nameIndex := 286, descriptorIndex := 25, attributes := #[] }, { accessFlags := 25, nameIndex := 288, descriptorIndex := 25, attributes := #[] }, { accessFlags := 25, nameIndex := 290, descriptorIndex := 25, attributes := #[] }, { accessFlags := 25, nameIndex := 292, descriptorIndex := 25, attributes := #[] }, { accessFlags := 26, nameIndex := 108, descriptorIndex := 109, attributes := #[] }, { accessFlags := 25, nameIndex := 294, descriptorIndex := 25, attributes := #[] }])
  fields := #[{ name := "U", type := (.object "jdk/internal/misc/Unsafe"), accessFlags := 24, slot := 0, constantValue := 0 }, { name := "BIG_ENDIAN", type := .boolean, accessFlags := 26, slot := 1, constantValue := 0 }, { name := "LOG2_ARRAY_BOOLEAN_INDEX_SCALE", type := .int, accessFlags := 25, slot := 2, constantValue := 0 }, { name := "LOG2_ARRAY_BYTE_INDEX_SCALE", type := .int, accessFlags := 25, slot := 3, constantValue := 0 }, { name := "LOG2_ARRAY_CHAR_INDEX_SCALE", type := .int, accessFlags := 25, slot := 4, constantValue := 0 }, { name := "LOG2_ARRAY_SHORT_INDEX_SCALE", type := .int, accessFlags := 25, slot := 5, constantValue := 0 }, { name := "LOG2_ARRAY_INT_INDEX_SCALE", type := .int, accessFlags := 25, slot := 6, constantValue := 0 }, { name := "LOG2_ARRAY_LONG_INDEX_SCALE", type := .int, accessFlags := 25, slot := 7, constantValue := 0 }, { name := "LOG2_ARRAY_FLOAT_INDEX_SCALE", type := .int, accessFlags := 25, slot := 8, constantValue := 0 }, { name := "LOG2_ARRAY_DOUBLE_INDEX_SCALE", type := .int, accessFlags := 25, slot := 9, constantValue := 0 }, { name := "LOG2_BYTE_BIT_SIZE", type := .int, accessFlags := 26, slot := 10, constantValue := 0 }, { name := "T_BOOLEAN", type := .int, accessFlags := 25, slot := 11, constantValue := 0 }, { name := "T_CHAR", type := .int, accessFlags := 25, slot := 12, constantValue := 0 }, { name := "T_FLOAT", type := .int, accessFlags := 25, slot := 13, constantValue := 0 }, { name := "T_DOUBLE", type := .int, accessFlags := 25, slot := 14, constantValue := 0 }, { name := "T_BYTE", type := .int, accessFlags := 25, slot := 15, constantValue := 0 }, { name := "T_SHORT", type := .int, accessFlags := 25, slot := 16, constantValue := 0 }, { name := "T_INT", type := .int, accessFlags := 25, slot := 17, constantValue := 0 }, { name := "T_LONG", type := .int, accessFlags := 25, slot := 18, constantValue := 0 }, { name := "JLA", type := (.object "jdk/internal/access/JavaLangAccess"), accessFlags := 26, slot := 19, constantValue := 0 }, { name := "SOFT_MAX_ARRAY_LENGTH", type := .int, accessFlags := 25, slot := 20, constantValue := 0 }]
  methods := #[k15m0]
  instanceTypes := #[]
  staticTypes := #[(.object "jdk/internal/misc/Unsafe"), .boolean, .int, .int, .int, .int, .int, .int, .int, .int, .int, .int, .int, .int, .int, .int, .int, .int, .int, (.object "jdk/internal/access/JavaLangAccess"), .int]
  resolved := Array.replicate 378 none
  statics := none }

def pool16 : Array CpInfo := pool [(1, u "java/lang/Cloneable"), (0, .class_ 1), (0, u "java/lang/Object"), (0, .class_ 3)] 3

/-- java/lang/Cloneable -/
def k16 : Class := { plain "java/lang/Cloneable" (some 0) with
  accessFlags := 1537
  interfaces := #[]
  cf := some (fileOf pool16 2 #[] #[] 1537 4 #[] #[])
  fields := #[]
  methods := #[]
  instanceTypes := #[]
  staticTypes := #[]
  resolved := Array.replicate 8 none
  statics := none }

/-- the primitive byte -/
def k17 : Class := { plain "byte" none with kind := .primitive 'B', accessFlags := 0x411 }
/-- [B -/
def k18 : Class := { plain "[B" (some 0) with kind := .array 17 .byte, interfaces := #[16, 4], accessFlags := 1041 }

/-- the primitive int -/
def k19 : Class := { plain "int" none with kind := .primitive 'I', accessFlags := 0x411 }
/-- [I -/
def k20 : Class := { plain "[I" (some 0) with kind := .array 19 .int, interfaces := #[16, 4], accessFlags := 1041 }

def heap : Heap := #[{ cls := 6, slots := #[.ref 3, .ref 4, .ref 5, .ref 6, .ref 7, .ref 8, .ref 9, .ref 10, .ref 11, .ref 12, .ref 13, .ref 14, .ref 15, .ref 16, .null], vm := .statics 6 },
  { cls := 9, slots := #[.long 0, .int 1, .null, .int 0, .null, .int 0, .int 0], vm := .statics 9 },
  { cls := 14, slots := #[.null, .null, .null], vm := .statics 14 },
  { cls := 6, slots := #[.null, .int 0, .int 0], vm := .none },
  { cls := 6, slots := #[.null, .int 0, .int 0], vm := .none },
  { cls := 6, slots := #[.null, .int 0, .int 0], vm := .none },
  { cls := 6, slots := #[.null, .int 0, .int 0], vm := .none },
  { cls := 6, slots := #[.null, .int 0, .int 0], vm := .none },
  { cls := 6, slots := #[.null, .int 0, .int 0], vm := .none },
  { cls := 6, slots := #[.null, .int 0, .int 0], vm := .none },
  { cls := 6, slots := #[.null, .int 0, .int 0], vm := .none },
  { cls := 6, slots := #[.null, .int 0, .int 0], vm := .none },
  { cls := 6, slots := #[.null, .int 0, .int 0], vm := .none },
  { cls := 6, slots := #[.null, .int 0, .int 0], vm := .none },
  { cls := 6, slots := #[.null, .int 0, .int 0], vm := .none },
  { cls := 6, slots := #[.null, .int 0, .int 0], vm := .none },
  { cls := 6, slots := #[.null, .int 0, .int 0], vm := .none }]
def classes : Array Class := #[k0, k1, k2, k3, k4, k5, k6, k7, k8, k9, k10, k11, k12, k13, k14, k15, k16, k17, k18, k19, k20]
def interned : List (Array UInt16 × Addr) := []
def slotsUsed : Nat := 67
def theMethod : MethodId := ⟨1, 1⟩
def args0 : Array Value := #[.int 5, .int 3, .int 65, .long 5, .long 6]
def aboutOver (below : List Frame) : State where
  vm := { classes := classes, interned := interned.toArray }
  heap := heap
  slotsUsed := slotsUsed
  threads := #[{ frames := .invoking theMethod args0 :: below }]
def below0 : List Frame := [.native { method := ⟨0, 0⟩, args := #[] }]
def about1 : State := aboutOver below0
def p0 : Program := .bare "" "" ""
def e0 : Env := launch0.env 0 0 0
theorem w_frames : about1.frames = Frame.invoking theMethod args0 :: below0 := rfl
set_option maxRecDepth 65536 in
theorem w_args : argsFit about1.vm theMethod args0 = true := by decide +kernel
set_option maxRecDepth 65536 in
theorem w_heap : heapFits about1 = true := by decide +kernel
set_option maxRecDepth 65536 in
theorem w_runnable : about1.curStatus? = some .runnable := by decide +kernel
set_option maxRecDepth 65536 in
theorem w_alone : about1.alone = true := by decide +kernel
set_option maxRecDepth 65536 in
theorem w_named : about1.methodNamed? x = some theMethod := by decide +kernel
set_option maxRecDepth 65536 in
theorem w_hears : about1.hears theMethod below0 = true := by decide +kernel
set_option maxRecDepth 65536 in
theorem w_ripe : about1.ripe theMethod args0 below0 = true := by decide +kernel
theorem w_running : about1.status = .running := rfl
set_option maxRecDepth 65536 in
theorem w_room : about1.hasRoom e0.platform room_1 = true :=
  launch0.hasRoom_least _ room_1 (by decide +kernel) (by decide +kernel) (by decide +kernel) (by decide +kernel) (by decide +kernel) (by decide +kernel)
theorem allAtoms_all (ts : List Jvm.Cond) (a : Array Jvm.Value) (st : Jvm.State) : (allAtoms ts).before a st = ts.all (fun c => c.before a st) := by
  induction ts with
  | nil => rfl
  | cons c t ih =>
    show (Jvm.Cond.and c (allAtoms t)).before a st = _
    rw [Jvm.Cond.before_and, ih, List.all_cons]
def words1 : List Jvm.Cond := Jvm.Cond.code x code maxLocals ret :: tables_1
/-- a 'code' word, met by the world's own term for the bytes: nothing is compared byte by byte -/
theorem code_word {y : MethodName} {bytes : ByteArray} {mx : Nat} {rt : Option FieldType} {a : Array Value} {s : State} {m : MethodId} {meth : Method} {c : Code} (h1 : s.methodNamed? y = some m) (h2 : s.vm.method? m = some meth) (h3 : meth.code = some c) (h4 : c.code = bytes)
    (h5 : (c.maxLocals == mx && c.exceptionTable.isEmpty && decide (c.maxStack ≤ mostOperands) && decide (meth.sig.returnType = rt) && !meth.locks && decide (parseMethodDescriptor y.desc = some meth.sig)) = true) : (Jvm.Cond.code y bytes mx rt).before a s = true := by
  simp only [Bool.and_eq_true, beq_iff_eq, Bool.not_eq_true', decide_eq_true_eq] at h5
  obtain ⟨⟨⟨⟨⟨g1, g2⟩, g3⟩, g4⟩, g5⟩, g6⟩ := h5
  simp [Cond.before, Cond.holds, Cond.value, h1, h2, h3, h4, g1, g2, g3, g4, g5, g6]
def isCode : Jvm.Cond → Bool
  | .code _ _ _ _ => true
  | _ => false
theorem all_split {L : List Jvm.Cond} {P : Jvm.Cond → Bool} (h1 : L.all (fun c => isCode c || P c) = true) (h2 : ∀ c ∈ L.filter isCode, P c = true) : L.all P = true := by
  refine List.all_eq_true.mpr fun c hc => ?_
  have h := List.all_eq_true.mp h1 c hc
  rcases Bool.eq_false_or_eq_true (isCode c) with hi | hi
  · exact h2 c (List.mem_filter.mpr ⟨hc, hi⟩)
  · simpa [hi] using h
set_option maxRecDepth 65536 in
theorem w_c0 : (Jvm.Cond.code x code maxLocals ret).before args0 about1 = true := code_word (m := ⟨1, 1⟩) (meth := k1m1) (c := k1c1) (by decide +kernel) rfl rfl rfl (by decide +kernel)
set_option maxRecDepth 65536 in
theorem w_c1 : (Jvm.Cond.code ({ cls := "com/example/quittance/quittance/AuditEntryWithAmountPinLaw", name := "action", desc := "(I)Lcom/example/quittance/quittance/AuditEntry$Action;" } : Jvm.MethodName) method_3_code (1 : Nat) (Option.some (Jvm.ClassFile.FieldType.object "com/example/quittance/quittance/AuditEntry$Action"))).before args0 about1 = true := code_word (m := ⟨1, 2⟩) (meth := k1m2) (c := k1c2) (by decide +kernel) rfl rfl rfl (by decide +kernel)
set_option maxRecDepth 65536 in
theorem w_c2 : (Jvm.Cond.code ({ cls := "java/lang/String", name := "valueOf", desc := "(C)Ljava/lang/String;" } : Jvm.MethodName) jdk_42_method_139_code (1 : Nat) (Option.some (Jvm.ClassFile.FieldType.object "java/lang/String"))).before args0 about1 = true := code_word (m := ⟨9, 1⟩) (meth := k9m1) (c := k9c1) (by decide +kernel) rfl rfl rfl (by decide +kernel)
set_option maxRecDepth 65536 in
theorem w_c3 : (Jvm.Cond.code ({ cls := "java/lang/StringLatin1", name := "canEncode", desc := "(C)Z" } : Jvm.MethodName) jdk_43_method_3_code (1 : Nat) (Option.some Jvm.ClassFile.FieldType.boolean)).before args0 about1 = true := code_word (m := ⟨10, 1⟩) (meth := k10m1) (c := k10c1) (by decide +kernel) rfl rfl rfl (by decide +kernel)
set_option maxRecDepth 65536 in
theorem w_c4 : (Jvm.Cond.code ({ cls := "java/lang/StringLatin1", name := "toBytes", desc := "(C)[B" } : Jvm.MethodName) jdk_43_method_46_code (1 : Nat) (Option.some (Jvm.ClassFile.FieldType.array Jvm.ClassFile.FieldType.byte))).before args0 about1 = true := code_word (m := ⟨10, 2⟩) (meth := k10m2) (c := k10c2) (by decide +kernel) rfl rfl rfl (by decide +kernel)
set_option maxRecDepth 65536 in
theorem w_c5 : (Jvm.Cond.code ({ cls := "java/lang/String", name := "<init>", desc := "([BB)V" } : Jvm.MethodName) jdk_42_method_151_code (3 : Nat) (Option.none : Option Jvm.ClassFile.FieldType)).before args0 about1 = true := code_word (m := ⟨9, 2⟩) (meth := k9m2) (c := k9c2) (by decide +kernel) rfl rfl rfl (by decide +kernel)
set_option maxRecDepth 65536 in
theorem w_c6 : (Jvm.Cond.code ({ cls := "java/lang/Object", name := "<init>", desc := "()V" } : Jvm.MethodName) object_method_1_code (1 : Nat) (Option.none : Option Jvm.ClassFile.FieldType)).before args0 about1 = true := code_word (m := ⟨0, 0⟩) (meth := k0m0) (c := k0c0) (by decide +kernel) rfl rfl rfl (by decide +kernel)
set_option maxRecDepth 65536 in
theorem w_c7 : (Jvm.Cond.code ({ cls := "com/example/quittance/quittance/Amount", name := "<init>", desc := "(J)V" } : Jvm.MethodName) prog_2_method_1_code (3 : Nat) (Option.none : Option Jvm.ClassFile.FieldType)).before args0 about1 = true := code_word (m := ⟨12, 0⟩) (meth := k12m0) (c := k12c0) (by decide +kernel) rfl rfl rfl (by decide +kernel)
set_option maxRecDepth 65536 in
theorem w_c8 : (Jvm.Cond.code ({ cls := "java/lang/Record", name := "<init>", desc := "()V" } : Jvm.MethodName) jdk_30_method_1_code (1 : Nat) (Option.none : Option Jvm.ClassFile.FieldType)).before args0 about1 = true := code_word (m := ⟨11, 0⟩) (meth := k11m0) (c := k11c0) (by decide +kernel) rfl rfl rfl (by decide +kernel)
set_option maxRecDepth 65536 in
theorem w_c9 : (Jvm.Cond.code ({ cls := "com/example/quittance/quittance/AuditEntry", name := "<init>", desc := "(Lcom/example/quittance/quittance/AuditEntry$Action;Ljava/lang/String;Ljava/lang/String;Lcom/example/quittance/quittance/Amount;Ljava/lang/String;)V" } : Jvm.MethodName) prog_3_method_1_code (6 : Nat) (Option.none : Option Jvm.ClassFile.FieldType)).before args0 about1 = true := code_word (m := ⟨13, 0⟩) (meth := k13m0) (c := k13c0) (by decide +kernel) rfl rfl rfl (by decide +kernel)
set_option maxRecDepth 65536 in
theorem w_c10 : (Jvm.Cond.code ({ cls := "com/example/quittance/quittance/AuditEntry", name := "withAmount", desc := "(Lcom/example/quittance/quittance/Amount;)Lcom/example/quittance/quittance/AuditEntry;" } : Jvm.MethodName) prog_3_method_4_code (2 : Nat) (Option.some (Jvm.ClassFile.FieldType.object "com/example/quittance/quittance/AuditEntry"))).before args0 about1 = true := code_word (m := ⟨13, 1⟩) (meth := k13m1) (c := k13c1) (by decide +kernel) rfl rfl rfl (by decide +kernel)
set_option maxRecDepth 65536 in
theorem w_c11 : (Jvm.Cond.code ({ cls := "com/example/quittance/quittance/AuditEntry", name := "action", desc := "()Lcom/example/quittance/quittance/AuditEntry$Action;" } : Jvm.MethodName) prog_3_method_9_code (1 : Nat) (Option.some (Jvm.ClassFile.FieldType.object "com/example/quittance/quittance/AuditEntry$Action"))).before args0 about1 = true := code_word (m := ⟨13, 2⟩) (meth := k13m2) (c := k13c2) (by decide +kernel) rfl rfl rfl (by decide +kernel)
set_option maxRecDepth 65536 in
theorem w_c12 : (Jvm.Cond.code ({ cls := "com/example/quittance/quittance/AuditEntry", name := "document", desc := "()Ljava/lang/String;" } : Jvm.MethodName) prog_3_method_10_code (1 : Nat) (Option.some (Jvm.ClassFile.FieldType.object "java/lang/String"))).before args0 about1 = true := code_word (m := ⟨13, 3⟩) (meth := k13m3) (c := k13c3) (by decide +kernel) rfl rfl rfl (by decide +kernel)
set_option maxRecDepth 65536 in
theorem w_c13 : (Jvm.Cond.code ({ cls := "com/example/quittance/quittance/AuditEntry", name := "invoice", desc := "()Ljava/lang/String;" } : Jvm.MethodName) prog_3_method_11_code (1 : Nat) (Option.some (Jvm.ClassFile.FieldType.object "java/lang/String"))).before args0 about1 = true := code_word (m := ⟨13, 4⟩) (meth := k13m4) (c := k13c4) (by decide +kernel) rfl rfl rfl (by decide +kernel)
set_option maxRecDepth 65536 in
theorem w_c14 : (Jvm.Cond.code ({ cls := "com/example/quittance/quittance/AuditEntry", name := "amount", desc := "()Lcom/example/quittance/quittance/Amount;" } : Jvm.MethodName) prog_3_method_12_code (1 : Nat) (Option.some (Jvm.ClassFile.FieldType.object "com/example/quittance/quittance/Amount"))).before args0 about1 = true := code_word (m := ⟨13, 5⟩) (meth := k13m5) (c := k13c5) (by decide +kernel) rfl rfl rfl (by decide +kernel)
set_option maxRecDepth 65536 in
theorem w_c15 : (Jvm.Cond.code ({ cls := "com/example/quittance/quittance/AuditEntry", name := "reasonCode", desc := "()Ljava/lang/String;" } : Jvm.MethodName) prog_3_method_13_code (1 : Nat) (Option.some (Jvm.ClassFile.FieldType.object "java/lang/String"))).before args0 about1 = true := code_word (m := ⟨13, 6⟩) (meth := k13m6) (c := k13c6) (by decide +kernel) rfl rfl rfl (by decide +kernel)
def codes1 : List Jvm.Cond := [Jvm.Cond.code x code maxLocals ret, Jvm.Cond.code ({ cls := "com/example/quittance/quittance/AuditEntryWithAmountPinLaw", name := "action", desc := "(I)Lcom/example/quittance/quittance/AuditEntry$Action;" } : Jvm.MethodName) method_3_code (1 : Nat) (Option.some (Jvm.ClassFile.FieldType.object "com/example/quittance/quittance/AuditEntry$Action")), Jvm.Cond.code ({ cls := "java/lang/String", name := "valueOf", desc := "(C)Ljava/lang/String;" } : Jvm.MethodName) jdk_42_method_139_code (1 : Nat) (Option.some (Jvm.ClassFile.FieldType.object "java/lang/String")), Jvm.Cond.code ({ cls := "java/lang/StringLatin1", name := "canEncode", desc := "(C)Z" } : Jvm.MethodName) jdk_43_method_3_code (1 : Nat) (Option.some Jvm.ClassFile.FieldType.boolean), Jvm.Cond.code ({ cls := "java/lang/StringLatin1", name := "toBytes", desc := "(C)[B" } : Jvm.MethodName) jdk_43_method_46_code (1 : Nat) (Option.some (Jvm.ClassFile.FieldType.array Jvm.ClassFile.FieldType.byte)), Jvm.Cond.code ({ cls := "java/lang/String", name := "<init>", desc := "([BB)V" } : Jvm.MethodName) jdk_42_method_151_code (3 : Nat) (Option.none : Option Jvm.ClassFile.FieldType), Jvm.Cond.code ({ cls := "java/lang/Object", name := "<init>", desc := "()V" } : Jvm.MethodName) object_method_1_code (1 : Nat) (Option.none : Option Jvm.ClassFile.FieldType), Jvm.Cond.code ({ cls := "com/example/quittance/quittance/Amount", name := "<init>", desc := "(J)V" } : Jvm.MethodName) prog_2_method_1_code (3 : Nat) (Option.none : Option Jvm.ClassFile.FieldType), Jvm.Cond.code ({ cls := "java/lang/Record", name := "<init>", desc := "()V" } : Jvm.MethodName) jdk_30_method_1_code (1 : Nat) (Option.none : Option Jvm.ClassFile.FieldType), Jvm.Cond.code ({ cls := "com/example/quittance/quittance/AuditEntry", name := "<init>", desc := "(Lcom/example/quittance/quittance/AuditEntry$Action;Ljava/lang/String;Ljava/lang/String;Lcom/example/quittance/quittance/Amount;Ljava/lang/String;)V" } : Jvm.MethodName) prog_3_method_1_code (6 : Nat) (Option.none : Option Jvm.ClassFile.FieldType), Jvm.Cond.code ({ cls := "com/example/quittance/quittance/AuditEntry", name := "withAmount", desc := "(Lcom/example/quittance/quittance/Amount;)Lcom/example/quittance/quittance/AuditEntry;" } : Jvm.MethodName) prog_3_method_4_code (2 : Nat) (Option.some (Jvm.ClassFile.FieldType.object "com/example/quittance/quittance/AuditEntry")), Jvm.Cond.code ({ cls := "com/example/quittance/quittance/AuditEntry", name := "action", desc := "()Lcom/example/quittance/quittance/AuditEntry$Action;" } : Jvm.MethodName) prog_3_method_9_code (1 : Nat) (Option.some (Jvm.ClassFile.FieldType.object "com/example/quittance/quittance/AuditEntry$Action")), Jvm.Cond.code ({ cls := "com/example/quittance/quittance/AuditEntry", name := "document", desc := "()Ljava/lang/String;" } : Jvm.MethodName) prog_3_method_10_code (1 : Nat) (Option.some (Jvm.ClassFile.FieldType.object "java/lang/String")), Jvm.Cond.code ({ cls := "com/example/quittance/quittance/AuditEntry", name := "invoice", desc := "()Ljava/lang/String;" } : Jvm.MethodName) prog_3_method_11_code (1 : Nat) (Option.some (Jvm.ClassFile.FieldType.object "java/lang/String")), Jvm.Cond.code ({ cls := "com/example/quittance/quittance/AuditEntry", name := "amount", desc := "()Lcom/example/quittance/quittance/Amount;" } : Jvm.MethodName) prog_3_method_12_code (1 : Nat) (Option.some (Jvm.ClassFile.FieldType.object "com/example/quittance/quittance/Amount")), Jvm.Cond.code ({ cls := "com/example/quittance/quittance/AuditEntry", name := "reasonCode", desc := "()Ljava/lang/String;" } : Jvm.MethodName) prog_3_method_13_code (1 : Nat) (Option.some (Jvm.ClassFile.FieldType.object "java/lang/String"))]
set_option maxRecDepth 65536 in
theorem codes_eq : words1.filter isCode = codes1 := rfl
theorem w_codes : ∀ c ∈ words1.filter isCode, c.before args0 about1 = true := by
  rw [codes_eq]
  intro c hc
  simp only [codes1, List.mem_cons, List.not_mem_nil, or_false] at hc
  rcases hc with rfl | rfl | rfl | rfl | rfl | rfl | rfl | rfl | rfl | rfl | rfl | rfl | rfl | rfl | rfl | rfl
  · exact w_c0
  · exact w_c1
  · exact w_c2
  · exact w_c3
  · exact w_c4
  · exact w_c5
  · exact w_c6
  · exact w_c7
  · exact w_c8
  · exact w_c9
  · exact w_c10
  · exact w_c11
  · exact w_c12
  · exact w_c13
  · exact w_c14
  · exact w_c15
set_option maxRecDepth 65536 in
theorem w_t1 : (words1.take 24).all (fun c => isCode c || c.before args0 about1) = true := by decide +kernel
set_option maxRecDepth 65536 in
theorem w_t2 : ((words1.drop 24).take 24).all (fun c => isCode c || c.before args0 about1) = true := by decide +kernel
set_option maxRecDepth 65536 in
theorem w_t3 : (((words1.drop 24).drop 24).take 24).all (fun c => isCode c || c.before args0 about1) = true := by decide +kernel
set_option maxRecDepth 65536 in
theorem w_t4 : ((((words1.drop 24).drop 24).drop 24).take 24).all (fun c => isCode c || c.before args0 about1) = true := by decide +kernel
set_option maxRecDepth 65536 in
theorem w_t5 : (((((words1.drop 24).drop 24).drop 24).drop 24).take 24).all (fun c => isCode c || c.before args0 about1) = true := by decide +kernel
set_option maxRecDepth 65536 in
theorem w_t6 : (((((words1.drop 24).drop 24).drop 24).drop 24).drop 24).all (fun c => isCode c || c.before args0 about1) = true := by decide +kernel
theorem w_tables : (allAtoms (Jvm.Cond.code x code maxLocals ret :: tables_1)).before args0 about1 = true := by
  rw [allAtoms_all]
  show words1.all (fun c => c.before args0 about1) = true
  refine all_split ?_ w_codes
  rw [← List.take_append_drop 24 words1, List.all_append, w_t1, ← List.take_append_drop 24 (words1.drop 24), List.all_append, w_t2, ← List.take_append_drop 24 ((words1.drop 24).drop 24), List.all_append, w_t3, ← List.take_append_drop 24 (((words1.drop 24).drop 24).drop 24), List.all_append, w_t4, ← List.take_append_drop 24 ((((words1.drop 24).drop 24).drop 24).drop 24), List.all_append, w_t5, w_t6]
  rfl
set_option maxRecDepth 65536 in
theorem w_rest : rest_1_c.before args0 about1 = true := by decide +kernel
set_option maxRecDepth 65536 in
theorem w_case : (Jvm.Cond.and given_1 narrow_1).before args0 about1 = true := by decide +kernel
theorem w_applies : (headSpec (Jvm.Cond.code x code maxLocals ret :: tables_1) room_1).applies x e0.platform about1 = true :=
  (Spec.applies_iff w_frames).mpr ⟨w_running, w_runnable, w_alone, w_named, w_hears, w_ripe, w_room, w_tables⟩
theorem atStart : AtStart classFile x code maxLocals ret World_1 tables_1 room_1 Calls_1 rest_1 Pre_1 launch0 p0 e0 about1 theMethod args0 below0 :=
  ⟨lists_1, trivial, launch0.admits_env _ _ _, launch0.least_env, fairChoices_fair.cas, fairChoices_fair.clock, w_frames, w_args, w_heap, w_applies, trivial, w_rest, w_case⟩
end start1
theorem witness_1 : WitnessClaimed_1 := ⟨start1.p0, start1.e0, start1.about1, start1.theMethod, start1.args0, start1.below0, start1.atStart⟩
end Jvm.Pilot.@@N@@
