import JvmDerived
import JvmDerived.Pilot.@@N@@Statement
import JvmDerived.Pilot.@@N@@Code
set_option linter.unusedVariables false
set_option linter.unusedSimpArgs false
namespace Jvm.RoadKit
open Sem ClassFile Op Lib Jvm.Stand Jvm.Free Jvm.LawKit
section Own
variable {p : Program} {l : Launch} {e : Env} {R : Room} {s : State} {m : MethodId} {args : Array Value} {below : List Frame} {meth : Method} {c : Code} {Z : State} {a0 : Array Value}
/-- what a body's walk stands on -/
def OC (p : Program) (s : State) (m : MethodId) (meth : Method) (c : Code) (Z : State) (own nm : String) (bytes : ByteArray) (ml : Nat) (ret : Option FieldType) : Prop :=
  p.tables.exec = Jvm.exec ∧ c.code = bytes ∧ Z.Warmed39 s.vm ∧ s.vm.findClass own = some m.cls ∧ c.maxLocals = ml ∧ meth.sig.returnType = ret ∧ meth.locks = false ∧ meth.name = nm
/-- where the walk stands: the heap, what has been made, what has been written -/
def OS (p : Program) (l : Launch) (e : Env) (R : Room) (s : State) (m : MethodId) (args : Array Value) (below : List Frame) (meth : Method) (c : Code) (n0 : Nat) (h : Heap) (cl sl : Nat) (T : State) (locs : List Loc) : Prop :=
  Stand p l e R s m args below meth c T locs cl sl ∧ Fr n0 locs ∧ T.heap = h ∧ cl ≤ R.cells ∧ sl ≤ R.slots
/-- a run that leaves the heap as it is: from the frame g to the frame g' -/
def OG (p : Program) (l : Launch) (e : Env) (R : Room) (s : State) (m : MethodId) (args : Array Value) (below : List Frame) (meth : Method) (c : Code) (n0 : Nat) (h : Heap) (g g' : JFrame) : Prop :=
  ∀ T locs cl sl, OS p l e R s m args below meth c n0 h cl sl T locs →
    ∃ T' locs', OS p l e R s m args below meth c n0 h cl sl T' locs' ∧ ∀ target, Steps p.tables e below (T'.setTop g') target → Steps p.tables e below (T.setTop g) target
/-- what is left to run from the frame g: it returns, and Q holds of what it returns and of the heap -/
def OW (p : Program) (l : Launch) (e : Env) (R : Room) (s : State) (m : MethodId) (args : Array Value) (below : List Frame) (meth : Method) (c : Code) (n0 : Nat) (Q : Option Value → Heap → Prop) (K N : Nat) (h : Heap) (cl sl : Nat) (g : JFrame) : Prop :=
  ∀ T locs, OS p l e R s m args below meth c n0 h cl sl T locs →
    ∃ s₂ o, Steps p.tables e below (T.setTop g) s₂ ∧ s₂.status = .running ∧ Ended s₂ below o ∧ ∃ v L, o = .returned v ∧ (Q v s₂.heap ∧ Fr n0 L) ∧ FrameEnd s o s₂ L K N
variable {own nm : String} {bytes : ByteArray} {ml n0 K N : Nat} {ret : Option FieldType} {Q : Option Value → Heap → Prop} {h : Heap} {cl sl : Nat} {g g' g'' : JFrame} {pc pc' : Nat} {ls ls' : Array Slot} {st : List Value}
theorem OG.refl : OG p l e R s m args below meth c n0 h g g := fun T locs _ _ X => ⟨T, locs, X, fun _ k => k⟩
theorem OG.trans (A : OG p l e R s m args below meth c n0 h g g') (B : OG p l e R s m args below meth c n0 h g' g'') : OG p l e R s m args below meth c n0 h g g'' := fun T locs cl sl X => by
  obtain ⟨T1, L1, X1, k1⟩ := A T locs cl sl X
  obtain ⟨T2, L2, X2, k2⟩ := B T1 L1 cl sl X1
  exact ⟨T2, L2, X2, fun t k => k1 t (k2 t k)⟩
theorem OG.ow (A : OG p l e R s m args below meth c n0 h g g') (B : OW p l e R s m args below meth c n0 Q K N h cl sl g') : OW p l e R s m args below meth c n0 Q K N h cl sl g := fun T locs X => by
  obtain ⟨T1, L1, X1, k1⟩ := A T locs cl sl X
  obtain ⟨s₂, o, q, r⟩ := B T1 L1 X1
  exact ⟨s₂, o, k1 _ q, r⟩
theorem OG.cast (A : OG p l e R s m args below meth c n0 h g g') (q : g' = g'') : OG p l e R s m args below meth c n0 h g g'' := q ▸ A
theorem OW.cast (q : g = g') (A : OW p l e R s m args below meth c n0 Q K N h cl sl g') : OW p l e R s m args below meth c n0 Q K N h cl sl g := q ▸ A
theorem OW.more {cl' sl' : Nat} (A : OW p l e R s m args below meth c n0 Q K N h cl' sl' g) (q1 : cl ≤ cl') (q2 : sl ≤ sl') (q3 : cl' ≤ R.cells) (q4 : sl' ≤ R.slots) : OW p l e R s m args below meth c n0 Q K N h cl sl g := fun T locs X => A T locs ⟨X.1.more q1 q2, X.2.1, X.2.2.1, q3, q4⟩
/-- the two arms of a branch meet -/
theorem OG.ite {α : Type} {P : Prop} [Decidable P] {f : α → JFrame} {x y : α} (A : P → OG p l e R s m args below meth c n0 h g (f x)) (B : ¬ P → OG p l e R s m args below meth c n0 h g (f y)) : OG p l e R s m args below meth c n0 h g (f (if P then x else y)) := by
  by_cases q : P
  · rw [if_pos q]; exact A q
  · rw [if_neg q]; exact B q
theorem OG.of (k : ∀ (s' : State) T locs cl sl, Stand p l e R s' m args below meth c T locs cl sl → ∀ target, Steps p.tables e below (T.setTop g') target → Steps p.tables e below (T.setTop g) target) : OG p l e R s m args below meth c n0 h g g' :=
  fun T locs _ _ X => ⟨T, locs, X, k _ T locs _ _ X.1⟩
theorem OC.d (C : OC p s m meth c Z own nm bytes ml ret) {r : Except DecodeError (Instr × Nat)} (q : decode bytes pc = r) : decode c.code pc = r := by rw [C.2.1]; exact q
theorem OG.ite0 {P : Prop} [Decidable P] (A : P → OG p l e R s m args below meth c n0 h g g') (B : ¬ P → OG p l e R s m args below meth c n0 h g g') : OG p l e R s m args below meth c n0 h g g' := by
  by_cases q : P
  · exact A q
  · exact B q
theorem OG.ite2 {α β : Type} {P : Prop} [Decidable P] {f : α → β → JFrame} {x y : α} {x' y' : β} (A : P → OG p l e R s m args below meth c n0 h g (f x x')) (B : ¬ P → OG p l e R s m args below meth c n0 h g (f y y')) : OG p l e R s m args below meth c n0 h g (f (if P then x else y) (if P then x' else y')) := by
  by_cases q : P
  · rw [if_pos q, if_pos q]; exact A q
  · rw [if_neg q, if_neg q]; exact B q
theorem OG.iloadN (C : OC p s m meth c Z own nm bytes ml ret) {k : Fin 4} {v : Int32} (hd : decode bytes pc = .ok (.iload_n k, 1)) (hl : ls[k.val]? = some (.val (.int v))) (hp : pc + 1 = pc') : OG p l e R s m args below meth c n0 h (mkF m pc ls st) (mkF m pc' ls (.int v :: st)) := by
  subst hp
  exact OG.of fun s' T locs cl sl X target k => XS.iloadN X.here C.1 rfl (C.d hd) hl k
theorem OG.iload (C : OC p s m meth c Z own nm bytes ml ret) {k : Nat} {v : Int32} (hd : decode bytes pc = .ok (.iload k, 2)) (hl : ls[k]? = some (.val (.int v))) (hp : pc + 2 = pc') : OG p l e R s m args below meth c n0 h (mkF m pc ls st) (mkF m pc' ls (.int v :: st)) := by
  subst hp
  exact OG.of fun s' T locs cl sl X target k => XS.iload X.here C.1 rfl (C.d hd) hl k
theorem OG.lloadN (C : OC p s m meth c Z own nm bytes ml ret) {k : Fin 4} {v : Int64} (hd : decode bytes pc = .ok (.lload_n k, 1)) (hl : ls[k.val]? = some (.val (.long v))) (hp : pc + 1 = pc') : OG p l e R s m args below meth c n0 h (mkF m pc ls st) (mkF m pc' ls (.long v :: st)) := by
  subst hp
  exact OG.of fun s' T locs cl sl X target k => XS.lloadN X.here C.1 rfl (C.d hd) hl k
theorem OG.lload (C : OC p s m meth c Z own nm bytes ml ret) {k : Nat} {v : Int64} (hd : decode bytes pc = .ok (.lload k, 2)) (hl : ls[k]? = some (.val (.long v))) (hp : pc + 2 = pc') : OG p l e R s m args below meth c n0 h (mkF m pc ls st) (mkF m pc' ls (.long v :: st)) := by
  subst hp
  exact OG.of fun s' T locs cl sl X target k => XS.lload X.here C.1 rfl (C.d hd) hl k
theorem OG.aloadN (C : OC p s m meth c Z own nm bytes ml ret) {k : Fin 4} {v : Value} (hd : decode bytes pc = .ok (.aload_n k, 1)) (hl : ls[k.val]? = some (.val v)) (hv : v.isRef = true) (hp : pc + 1 = pc') : OG p l e R s m args below meth c n0 h (mkF m pc ls st) (mkF m pc' ls (v :: st)) := by
  subst hp
  exact OG.of fun s' T locs cl sl X target k => XS.aloadN X.here C.1 rfl (C.d hd) hl hv k
theorem OG.aload (C : OC p s m meth c Z own nm bytes ml ret) {k : Nat} {v : Value} (hd : decode bytes pc = .ok (.aload k, 2)) (hl : ls[k]? = some (.val v)) (hv : v.isRef = true) (hp : pc + 2 = pc') : OG p l e R s m args below meth c n0 h (mkF m pc ls st) (mkF m pc' ls (v :: st)) := by
  subst hp
  exact OG.of fun s' T locs cl sl X target k => XS.aload X.here C.1 rfl (C.d hd) hl hv k
theorem OG.istoreN (C : OC p s m meth c Z own nm bytes ml ret) {k : Fin 4} {v : Int32} (hd : decode bytes pc = .ok (.istore_n k, 1)) (hl : storeLocals ls k.val (.int v) = some ls') (hp : pc + 1 = pc') : OG p l e R s m args below meth c n0 h (mkF m pc ls (.int v :: st)) (mkF m pc' ls' st) := by
  subst hp
  exact OG.of fun s' T locs cl sl X target k => XS.istoreN X.here C.1 rfl (C.d hd) rfl hl k
theorem OG.istore (C : OC p s m meth c Z own nm bytes ml ret) {k : Nat} {v : Int32} (hd : decode bytes pc = .ok (.istore k, 2)) (hl : storeLocals ls k (.int v) = some ls') (hp : pc + 2 = pc') : OG p l e R s m args below meth c n0 h (mkF m pc ls (.int v :: st)) (mkF m pc' ls' st) := by
  subst hp
  exact OG.of fun s' T locs cl sl X target k => XS.istore X.here C.1 rfl (C.d hd) rfl hl k
theorem OG.lstoreN (C : OC p s m meth c Z own nm bytes ml ret) {k : Fin 4} {v : Int64} (hd : decode bytes pc = .ok (.lstore_n k, 1)) (hl : storeLocals ls k.val (.long v) = some ls') (hp : pc + 1 = pc') : OG p l e R s m args below meth c n0 h (mkF m pc ls (.long v :: st)) (mkF m pc' ls' st) := by
  subst hp
  exact OG.of fun s' T locs cl sl X target k => XS.lstoreN X.here C.1 rfl (C.d hd) rfl hl k
theorem OG.lstore (C : OC p s m meth c Z own nm bytes ml ret) {k : Nat} {v : Int64} (hd : decode bytes pc = .ok (.lstore k, 2)) (hl : storeLocals ls k (.long v) = some ls') (hp : pc + 2 = pc') : OG p l e R s m args below meth c n0 h (mkF m pc ls (.long v :: st)) (mkF m pc' ls' st) := by
  subst hp
  exact OG.of fun s' T locs cl sl X target k => XS.lstore X.here C.1 rfl (C.d hd) rfl hl k
theorem OG.astoreN (C : OC p s m meth c Z own nm bytes ml ret) {k : Fin 4} {v : Value} (hd : decode bytes pc = .ok (.astore_n k, 1)) (hv : v.isRef = true) (hl : storeLocals ls k.val v = some ls') (hp : pc + 1 = pc') : OG p l e R s m args below meth c n0 h (mkF m pc ls (v :: st)) (mkF m pc' ls' st) := by
  subst hp
  exact OG.of fun s' T locs cl sl X target k => XS.astoreN X.here C.1 rfl (C.d hd) rfl hv hl k
theorem OG.astore (C : OC p s m meth c Z own nm bytes ml ret) {k : Nat} {v : Value} (hd : decode bytes pc = .ok (.astore k, 2)) (hv : v.isRef = true) (hl : storeLocals ls k v = some ls') (hp : pc + 2 = pc') : OG p l e R s m args below meth c n0 h (mkF m pc ls (v :: st)) (mkF m pc' ls' st) := by
  subst hp
  exact OG.of fun s' T locs cl sl X target k => XS.astore X.here C.1 rfl (C.d hd) rfl hv hl k
theorem OG.iconst (C : OC p s m meth c Z own nm bytes ml ret) {i : Int} {z : Int32} (hd : decode bytes pc = .ok (.iconst i, 1)) (hz : Int32.ofInt i = z) (hp : pc + 1 = pc') : OG p l e R s m args below meth c n0 h (mkF m pc ls st) (mkF m pc' ls (.int z :: st)) := by
  subst hp hz
  exact OG.of fun s' T locs cl sl X target k => XS.iconst X.here C.1 rfl (C.d hd)  k
theorem OG.bipush (C : OC p s m meth c Z own nm bytes ml ret) {i : Int} {z : Int32} (hd : decode bytes pc = .ok (.bipush i, 2)) (hz : (Int8.ofInt i).toInt32 = z) (hp : pc + 2 = pc') : OG p l e R s m args below meth c n0 h (mkF m pc ls st) (mkF m pc' ls (.int z :: st)) := by
  subst hp hz
  exact OG.of fun s' T locs cl sl X target k => XS.bipush X.here C.1 rfl (C.d hd)  k
theorem OG.sipush (C : OC p s m meth c Z own nm bytes ml ret) {i : Int} {z : Int32} (hd : decode bytes pc = .ok (.sipush i, 3)) (hz : (Int16.ofInt i).toInt32 = z) (hp : pc + 3 = pc') : OG p l e R s m args below meth c n0 h (mkF m pc ls st) (mkF m pc' ls (.int z :: st)) := by
  subst hp hz
  exact OG.of fun s' T locs cl sl X target k => XS.sipush X.here C.1 rfl (C.d hd)  k
theorem OG.lconst (C : OC p s m meth c Z own nm bytes ml ret) {i : Fin 2} {z : Int64} (hd : decode bytes pc = .ok (.lconst i, 1)) (hz : Int64.ofNat i = z) (hp : pc + 1 = pc') : OG p l e R s m args below meth c n0 h (mkF m pc ls st) (mkF m pc' ls (.long z :: st)) := by
  subst hp hz
  exact OG.of fun s' T locs cl sl X target k => XS.lconst X.here C.1 rfl (C.d hd)  k
theorem OG.aconst_null (C : OC p s m meth c Z own nm bytes ml ret)  (hd : decode bytes pc = .ok (.aconst_null, 1))  (hp : pc + 1 = pc') : OG p l e R s m args below meth c n0 h (mkF m pc ls st) (mkF m pc' ls (.null :: st)) := by
  subst hp
  exact OG.of fun s' T locs cl sl X target k => XS.aconstNull X.here C.1 rfl (C.d hd)  k
theorem OG.iadd (C : OC p s m meth c Z own nm bytes ml ret) {x y : Int32} (hd : decode bytes pc = .ok (.iadd, 1))  (hp : pc + 1 = pc') : OG p l e R s m args below meth c n0 h (mkF m pc ls (.int y :: .int x :: st)) (mkF m pc' ls (.int (x + y) :: st)) := by
  subst hp
  exact OG.of fun s' T locs cl sl X target k => XS.iadd X.here C.1 rfl (C.d hd) rfl k
theorem OG.ladd (C : OC p s m meth c Z own nm bytes ml ret) {x y : Int64} (hd : decode bytes pc = .ok (.ladd, 1))  (hp : pc + 1 = pc') : OG p l e R s m args below meth c n0 h (mkF m pc ls (.long y :: .long x :: st)) (mkF m pc' ls (.long (x + y) :: st)) := by
  subst hp
  exact OG.of fun s' T locs cl sl X target k => XS.ladd X.here C.1 rfl (C.d hd) rfl k
theorem OG.isub (C : OC p s m meth c Z own nm bytes ml ret) {x y : Int32} (hd : decode bytes pc = .ok (.isub, 1))  (hp : pc + 1 = pc') : OG p l e R s m args below meth c n0 h (mkF m pc ls (.int y :: .int x :: st)) (mkF m pc' ls (.int (x - y) :: st)) := by
  subst hp
  exact OG.of fun s' T locs cl sl X target k => XS.isub X.here C.1 rfl (C.d hd) rfl k
theorem OG.lsub (C : OC p s m meth c Z own nm bytes ml ret) {x y : Int64} (hd : decode bytes pc = .ok (.lsub, 1))  (hp : pc + 1 = pc') : OG p l e R s m args below meth c n0 h (mkF m pc ls (.long y :: .long x :: st)) (mkF m pc' ls (.long (x - y) :: st)) := by
  subst hp
  exact OG.of fun s' T locs cl sl X target k => XS.lsub X.here C.1 rfl (C.d hd) rfl k
theorem OG.imul (C : OC p s m meth c Z own nm bytes ml ret) {x y : Int32} (hd : decode bytes pc = .ok (.imul, 1))  (hp : pc + 1 = pc') : OG p l e R s m args below meth c n0 h (mkF m pc ls (.int y :: .int x :: st)) (mkF m pc' ls (.int (x * y) :: st)) := by
  subst hp
  exact OG.of fun s' T locs cl sl X target k => XS.imul X.here C.1 rfl (C.d hd) rfl k
theorem OG.lmul (C : OC p s m meth c Z own nm bytes ml ret) {x y : Int64} (hd : decode bytes pc = .ok (.lmul, 1))  (hp : pc + 1 = pc') : OG p l e R s m args below meth c n0 h (mkF m pc ls (.long y :: .long x :: st)) (mkF m pc' ls (.long (x * y) :: st)) := by
  subst hp
  exact OG.of fun s' T locs cl sl X target k => XS.lmul X.here C.1 rfl (C.d hd) rfl k
theorem OG.iand (C : OC p s m meth c Z own nm bytes ml ret) {x y : Int32} (hd : decode bytes pc = .ok (.iand, 1))  (hp : pc + 1 = pc') : OG p l e R s m args below meth c n0 h (mkF m pc ls (.int y :: .int x :: st)) (mkF m pc' ls (.int (x &&& y) :: st)) := by
  subst hp
  exact OG.of fun s' T locs cl sl X target k => XS.iand X.here C.1 rfl (C.d hd) rfl k
theorem OG.land (C : OC p s m meth c Z own nm bytes ml ret) {x y : Int64} (hd : decode bytes pc = .ok (.land, 1))  (hp : pc + 1 = pc') : OG p l e R s m args below meth c n0 h (mkF m pc ls (.long y :: .long x :: st)) (mkF m pc' ls (.long (x &&& y) :: st)) := by
  subst hp
  exact OG.of fun s' T locs cl sl X target k => XS.land X.here C.1 rfl (C.d hd) rfl k
theorem OG.ior (C : OC p s m meth c Z own nm bytes ml ret) {x y : Int32} (hd : decode bytes pc = .ok (.ior, 1))  (hp : pc + 1 = pc') : OG p l e R s m args below meth c n0 h (mkF m pc ls (.int y :: .int x :: st)) (mkF m pc' ls (.int (x ||| y) :: st)) := by
  subst hp
  exact OG.of fun s' T locs cl sl X target k => XS.ior X.here C.1 rfl (C.d hd) rfl k
theorem OG.lor (C : OC p s m meth c Z own nm bytes ml ret) {x y : Int64} (hd : decode bytes pc = .ok (.lor, 1))  (hp : pc + 1 = pc') : OG p l e R s m args below meth c n0 h (mkF m pc ls (.long y :: .long x :: st)) (mkF m pc' ls (.long (x ||| y) :: st)) := by
  subst hp
  exact OG.of fun s' T locs cl sl X target k => XS.lor X.here C.1 rfl (C.d hd) rfl k
theorem OG.ixor (C : OC p s m meth c Z own nm bytes ml ret) {x y : Int32} (hd : decode bytes pc = .ok (.ixor, 1))  (hp : pc + 1 = pc') : OG p l e R s m args below meth c n0 h (mkF m pc ls (.int y :: .int x :: st)) (mkF m pc' ls (.int (x ^^^ y) :: st)) := by
  subst hp
  exact OG.of fun s' T locs cl sl X target k => XS.ixor X.here C.1 rfl (C.d hd) rfl k
theorem OG.lxor (C : OC p s m meth c Z own nm bytes ml ret) {x y : Int64} (hd : decode bytes pc = .ok (.lxor, 1))  (hp : pc + 1 = pc') : OG p l e R s m args below meth c n0 h (mkF m pc ls (.long y :: .long x :: st)) (mkF m pc' ls (.long (x ^^^ y) :: st)) := by
  subst hp
  exact OG.of fun s' T locs cl sl X target k => XS.lxor X.here C.1 rfl (C.d hd) rfl k
theorem OG.idiv (C : OC p s m meth c Z own nm bytes ml ret) {x y : Int32} (hd : decode bytes pc = .ok (.idiv, 1)) (hy : y ≠ 0) (hp : pc + 1 = pc') : OG p l e R s m args below meth c n0 h (mkF m pc ls (.int y :: .int x :: st)) (mkF m pc' ls (.int (x / y) :: st)) := by
  subst hp
  exact OG.of fun s' T locs cl sl X target k => XS.idiv X.here C.1 rfl (C.d hd) rfl hy k
theorem OG.ldiv (C : OC p s m meth c Z own nm bytes ml ret) {x y : Int64} (hd : decode bytes pc = .ok (.ldiv, 1)) (hy : y ≠ 0) (hp : pc + 1 = pc') : OG p l e R s m args below meth c n0 h (mkF m pc ls (.long y :: .long x :: st)) (mkF m pc' ls (.long (x / y) :: st)) := by
  subst hp
  exact OG.of fun s' T locs cl sl X target k => XS.ldiv X.here C.1 rfl (C.d hd) rfl hy k
theorem OG.ineg (C : OC p s m meth c Z own nm bytes ml ret) {x : Int32} (hd : decode bytes pc = .ok (.ineg, 1))  (hp : pc + 1 = pc') : OG p l e R s m args below meth c n0 h (mkF m pc ls (.int x :: st)) (mkF m pc' ls (.int (-x) :: st)) := by
  subst hp
  exact OG.of fun s' T locs cl sl X target k => XS.ineg X.here C.1 rfl (C.d hd) rfl k
theorem OG.lneg (C : OC p s m meth c Z own nm bytes ml ret) {x : Int64} (hd : decode bytes pc = .ok (.lneg, 1))  (hp : pc + 1 = pc') : OG p l e R s m args below meth c n0 h (mkF m pc ls (.long x :: st)) (mkF m pc' ls (.long (-x) :: st)) := by
  subst hp
  exact OG.of fun s' T locs cl sl X target k => XS.lneg X.here C.1 rfl (C.d hd) rfl k
theorem OG.i2l (C : OC p s m meth c Z own nm bytes ml ret) {x : Int32} (hd : decode bytes pc = .ok (.i2l, 1))  (hp : pc + 1 = pc') : OG p l e R s m args below meth c n0 h (mkF m pc ls (.int x :: st)) (mkF m pc' ls (.long x.toInt64 :: st)) := by
  subst hp
  exact OG.of fun s' T locs cl sl X target k => XS.i2l X.here C.1 rfl (C.d hd) rfl k
theorem OG.l2i (C : OC p s m meth c Z own nm bytes ml ret) {x : Int64} (hd : decode bytes pc = .ok (.l2i, 1))  (hp : pc + 1 = pc') : OG p l e R s m args below meth c n0 h (mkF m pc ls (.long x :: st)) (mkF m pc' ls (.int x.toInt32 :: st)) := by
  subst hp
  exact OG.of fun s' T locs cl sl X target k => XS.l2i X.here C.1 rfl (C.d hd) rfl k
theorem OG.i2b (C : OC p s m meth c Z own nm bytes ml ret) {x : Int32} (hd : decode bytes pc = .ok (.i2b, 1))  (hp : pc + 1 = pc') : OG p l e R s m args below meth c n0 h (mkF m pc ls (.int x :: st)) (mkF m pc' ls (.int x.toInt8.toInt32 :: st)) := by
  subst hp
  exact OG.of fun s' T locs cl sl X target k => XS.i2b X.here C.1 rfl (C.d hd) rfl k
theorem OG.i2c (C : OC p s m meth c Z own nm bytes ml ret) {x : Int32} (hd : decode bytes pc = .ok (.i2c, 1))  (hp : pc + 1 = pc') : OG p l e R s m args below meth c n0 h (mkF m pc ls (.int x :: st)) (mkF m pc' ls (.int x.toUInt32.toUInt16.toUInt32.toInt32 :: st)) := by
  subst hp
  exact OG.of fun s' T locs cl sl X target k => XS.i2c X.here C.1 rfl (C.d hd) rfl k
theorem OG.i2s (C : OC p s m meth c Z own nm bytes ml ret) {x : Int32} (hd : decode bytes pc = .ok (.i2s, 1))  (hp : pc + 1 = pc') : OG p l e R s m args below meth c n0 h (mkF m pc ls (.int x :: st)) (mkF m pc' ls (.int x.toInt16.toInt32 :: st)) := by
  subst hp
  exact OG.of fun s' T locs cl sl X target k => XS.i2s X.here C.1 rfl (C.d hd) rfl k
theorem OG.ishl (C : OC p s m meth c Z own nm bytes ml ret) {x y : Int32} (hd : decode bytes pc = .ok (.ishl, 1))  (hp : pc + 1 = pc') : OG p l e R s m args below meth c n0 h (mkF m pc ls (.int y :: .int x :: st)) (mkF m pc' ls (.int (x <<< (y &&& 31)) :: st)) := by
  subst hp
  exact OG.of fun s' T locs cl sl X target k => XS.ishl X.here C.1 rfl (C.d hd) rfl k
theorem OG.ishr (C : OC p s m meth c Z own nm bytes ml ret) {x y : Int32} (hd : decode bytes pc = .ok (.ishr, 1))  (hp : pc + 1 = pc') : OG p l e R s m args below meth c n0 h (mkF m pc ls (.int y :: .int x :: st)) (mkF m pc' ls (.int (x >>> (y &&& 31)) :: st)) := by
  subst hp
  exact OG.of fun s' T locs cl sl X target k => XS.ishr X.here C.1 rfl (C.d hd) rfl k
theorem OG.iushr (C : OC p s m meth c Z own nm bytes ml ret) {x y : Int32} (hd : decode bytes pc = .ok (.iushr, 1))  (hp : pc + 1 = pc') : OG p l e R s m args below meth c n0 h (mkF m pc ls (.int y :: .int x :: st)) (mkF m pc' ls (.int (x.toUInt32 >>> (y &&& 31).toUInt32).toInt32 :: st)) := by
  subst hp
  exact OG.of fun s' T locs cl sl X target k => XS.iushr X.here C.1 rfl (C.d hd) rfl k
theorem OG.lshl (C : OC p s m meth c Z own nm bytes ml ret) {x : Int64} {y : Int32} (hd : decode bytes pc = .ok (.lshl, 1))  (hp : pc + 1 = pc') : OG p l e R s m args below meth c n0 h (mkF m pc ls (.int y :: .long x :: st)) (mkF m pc' ls (.long (x <<< (y &&& 0x3f).toInt64) :: st)) := by
  subst hp
  exact OG.of fun s' T locs cl sl X target k => XS.lshl X.here C.1 rfl (C.d hd) rfl k
theorem OG.lshr (C : OC p s m meth c Z own nm bytes ml ret) {x : Int64} {y : Int32} (hd : decode bytes pc = .ok (.lshr, 1))  (hp : pc + 1 = pc') : OG p l e R s m args below meth c n0 h (mkF m pc ls (.int y :: .long x :: st)) (mkF m pc' ls (.long (x >>> (y &&& 0x3f).toInt64) :: st)) := by
  subst hp
  exact OG.of fun s' T locs cl sl X target k => XS.lshr X.here C.1 rfl (C.d hd) rfl k
theorem OG.lushr (C : OC p s m meth c Z own nm bytes ml ret) {x : Int64} {y : Int32} (hd : decode bytes pc = .ok (.lushr, 1))  (hp : pc + 1 = pc') : OG p l e R s m args below meth c n0 h (mkF m pc ls (.int y :: .long x :: st)) (mkF m pc' ls (.long (x.toUInt64 >>> (y &&& 0x3f).toInt64.toUInt64).toInt64 :: st)) := by
  subst hp
  exact OG.of fun s' T locs cl sl X target k => XS.lushr X.here C.1 rfl (C.d hd) rfl k
theorem OG.lcmp (C : OC p s m meth c Z own nm bytes ml ret) {x y : Int64} (hd : decode bytes pc = .ok (.lcmp, 1))  (hp : pc + 1 = pc') : OG p l e R s m args below meth c n0 h (mkF m pc ls (.long y :: .long x :: st)) (mkF m pc' ls (.int (lcmpW x y) :: st)) := by
  subst hp
  exact OG.of fun s' T locs cl sl X target k => XS.lcmp X.here C.1 rfl (C.d hd) rfl k
theorem OG.dup (C : OC p s m meth c Z own nm bytes ml ret) {x : Value} (hd : decode bytes pc = .ok (.dup, 1)) (hc : x.category = 1) (hp : pc + 1 = pc') : OG p l e R s m args below meth c n0 h (mkF m pc ls (x :: st)) (mkF m pc' ls (x :: x :: st)) := by
  subst hp
  exact OG.of fun s' T locs cl sl X target k => XS.dup X.here C.1 rfl (C.d hd) rfl hc k
theorem OG.pop (C : OC p s m meth c Z own nm bytes ml ret) {x : Value} (hd : decode bytes pc = .ok (.pop, 1)) (hc : x.category = 1) (hp : pc + 1 = pc') : OG p l e R s m args below meth c n0 h (mkF m pc ls (x :: st)) (mkF m pc' ls st) := by
  subst hp
  exact OG.of fun s' T locs cl sl X target k => XS.pop X.here C.1 rfl (C.d hd) rfl hc k
theorem OG.iinc (C : OC p s m meth c Z own nm bytes ml ret) {k : Nat} {i : Int} {x z : Int32} (hd : decode bytes pc = .ok (.iinc k i, 3)) (hz : Int32.ofInt i = z) (hl : ls[k]? = some (.val (.int x))) (hl' : storeLocals ls k (.int (x + z)) = some ls') (hp : pc + 3 = pc') : OG p l e R s m args below meth c n0 h (mkF m pc ls st) (mkF m pc' ls' st) := by
  subst hp hz
  exact OG.of fun s' T locs cl sl X target k => XS.iinc X.here C.1 rfl (C.d hd) hl hl' k
theorem OG.goto (C : OC p s m meth c Z own nm bytes ml ret) {o : Int} (hd : decode bytes pc = .ok (.goto o, 3)) (ho : 0 ≤ (pc : Int) + o) (hp : ((pc : Int) + o).toNat = pc') : OG p l e R s m args below meth c n0 h (mkF m pc ls st) (mkF m pc' ls st) := OG.of fun s' T locs cl sl X target k => XS.goto X.here C.1 rfl (pc0 := pc) rfl (C.d hd) ho hp k
theorem OG.ifYes (C : OC p s m meth c Z own nm bytes ml ret) {o : Int} {cd : ClassFile.Cond} {x : Int32} (hd : decode bytes pc = .ok (.ifCond cd o, 3)) (hc : ifCond.holds cd x = true) (ho : 0 ≤ (pc : Int) + o) (hp : ((pc : Int) + o).toNat = pc') : OG p l e R s m args below meth c n0 h (mkF m pc ls (.int x :: st)) (mkF m pc' ls st) := OG.of fun s' T locs cl sl X target k => XS.ifYes X.here C.1 rfl (pc0 := pc) rfl (C.d hd) rfl hc ho hp k
theorem OG.ifNo (C : OC p s m meth c Z own nm bytes ml ret) {o : Int} {cd : ClassFile.Cond} {x : Int32} (hd : decode bytes pc = .ok (.ifCond cd o, 3)) (hc : ifCond.holds cd x = false) (hp : pc + 3 = pc') : OG p l e R s m args below meth c n0 h (mkF m pc ls (.int x :: st)) (mkF m pc' ls st) := by
  subst hp
  exact OG.of fun s' T locs cl sl X target k => XS.ifNo X.here C.1 rfl (C.d hd) rfl hc k
theorem OG.icmpYes (C : OC p s m meth c Z own nm bytes ml ret) {o : Int} {cd : ClassFile.Cond} {x y : Int32} (hd : decode bytes pc = .ok (.if_icmp cd o, 3)) (hc : if_icmp.holds cd x y = true) (ho : 0 ≤ (pc : Int) + o) (hp : ((pc : Int) + o).toNat = pc') : OG p l e R s m args below meth c n0 h (mkF m pc ls (.int y :: .int x :: st)) (mkF m pc' ls st) := OG.of fun s' T locs cl sl X target k => XS.icmpYes X.here C.1 rfl (pc0 := pc) rfl (C.d hd) rfl hc ho hp k
theorem OG.icmpNo (C : OC p s m meth c Z own nm bytes ml ret) {o : Int} {cd : ClassFile.Cond} {x y : Int32} (hd : decode bytes pc = .ok (.if_icmp cd o, 3)) (hc : if_icmp.holds cd x y = false) (hp : pc + 3 = pc') : OG p l e R s m args below meth c n0 h (mkF m pc ls (.int y :: .int x :: st)) (mkF m pc' ls st) := by
  subst hp
  exact OG.of fun s' T locs cl sl X target k => XS.icmpNo X.here C.1 rfl (C.d hd) rfl hc k
theorem OG.ifnullYes (C : OC p s m meth c Z own nm bytes ml ret) {o : Int}  (hd : decode bytes pc = .ok (.ifnull o, 3))  (ho : 0 ≤ (pc : Int) + o) (hp : ((pc : Int) + o).toNat = pc') : OG p l e R s m args below meth c n0 h (mkF m pc ls (.null :: st)) (mkF m pc' ls st) := OG.of fun s' T locs cl sl X target k => XS.ifnullYes X.here C.1 rfl (pc0 := pc) rfl (C.d hd) rfl ho hp k
theorem OG.ifnullNo (C : OC p s m meth c Z own nm bytes ml ret) {o : Int} {b : Addr} (hd : decode bytes pc = .ok (.ifnull o, 3))  (hp : pc + 3 = pc') : OG p l e R s m args below meth c n0 h (mkF m pc ls (.ref b :: st)) (mkF m pc' ls st) := by
  subst hp
  exact OG.of fun s' T locs cl sl X target k => XS.ifnullNo X.here C.1 rfl (C.d hd) rfl k
theorem OG.ifnonnullYes (C : OC p s m meth c Z own nm bytes ml ret) {o : Int} {b : Addr} (hd : decode bytes pc = .ok (.ifnonnull o, 3))  (ho : 0 ≤ (pc : Int) + o) (hp : ((pc : Int) + o).toNat = pc') : OG p l e R s m args below meth c n0 h (mkF m pc ls (.ref b :: st)) (mkF m pc' ls st) := OG.of fun s' T locs cl sl X target k => XS.ifnonnullYes X.here C.1 rfl (pc0 := pc) rfl (C.d hd) rfl ho hp k
theorem OG.ifnonnullNo (C : OC p s m meth c Z own nm bytes ml ret) {o : Int}  (hd : decode bytes pc = .ok (.ifnonnull o, 3))  (hp : pc + 3 = pc') : OG p l e R s m args below meth c n0 h (mkF m pc ls (.null :: st)) (mkF m pc' ls st) := by
  subst hp
  exact OG.of fun s' T locs cl sl X target k => XS.ifnonnullNo X.here C.1 rfl (C.d hd) rfl k
theorem OG.irem (C : OC p s m meth c Z own nm bytes ml ret) {x y : Int32} (hd : decode bytes pc = .ok (.irem, 1)) (hy : y ≠ 0) (hp : pc + 1 = pc') : OG p l e R s m args below meth c n0 h (mkF m pc ls (.int y :: .int x :: st)) (mkF m pc' ls (.int (x % y) :: st)) := by
  subst hp
  refine OG.of fun s' T locs cl sl X target k => XS.irem X.here C.1 rfl (C.d hd) rfl hy ?_
  rw [irem_eq_mod x y]; exact k
theorem OG.lrem (C : OC p s m meth c Z own nm bytes ml ret) {x y : Int64} (hd : decode bytes pc = .ok (.lrem, 1)) (hy : y ≠ 0) (hp : pc + 1 = pc') : OG p l e R s m args below meth c n0 h (mkF m pc ls (.long y :: .long x :: st)) (mkF m pc' ls (.long (x % y) :: st)) := by
  subst hp
  refine OG.of fun s' T locs cl sl X target k => XS.lrem X.here C.1 rfl (C.d hd) rfl hy ?_
  rw [lrem_mod x y]; exact k
theorem OG.acmp (C : OC p s m meth c Z own nm bytes ml ret) {o : Int} {cd : ACond} {x y : Value} {same : Bool} (hd : decode bytes pc = .ok (.if_acmp cd o, 3)) (h1 : x.isRef = true) (h2 : y.isRef = true) (hq : decide (x = y) = same) (ho : 0 ≤ (pc : Int) + o) (hp : pc' = if acV cd same = true then ((pc : Int) + o).toNat else pc + 3) :
    OG p l e R s m args below meth c n0 h (mkF m pc ls (y :: x :: st)) (mkF m pc' ls st) :=
  OG.of fun s' T locs cl sl X target k => RoadKit.acmp X C.1 rfl h1 h2 (pc0 := pc) rfl (C.d hd) rfl hq ho hp k
theorem OG.ldcI (C : OC p s m meth c Z own nm bytes ml ret) {i : Nat} {v : Int32} (w : (Cond.constant own i v).before a0 Z = true) (hd : decode bytes pc = .ok (.ldc i, 2)) (hp : pc + 2 = pc') : OG p l e R s m args below meth c n0 h (mkF m pc ls st) (mkF m pc' ls (.int v :: st)) := by
  subst hp
  rintro T locs cl sl ⟨X, N0, e0, bc, bs⟩
  exact ⟨T, locs, ⟨X, N0, e0, bc, bs⟩, fun target k => X.ldcInt C.1 C.2.2.2.1 (mv C.2.2.1 w) (g := mkF m pc ls st) rfl (C.d hd) target k⟩
theorem OG.ldcL (C : OC p s m meth c Z own nm bytes ml ret) {i : Nat} {v : Int64} (w : (Cond.constantLong own i v).before a0 Z = true) (hd : decode bytes pc = .ok (.ldc2_w i, 3)) (hp : pc + 3 = pc') : OG p l e R s m args below meth c n0 h (mkF m pc ls st) (mkF m pc' ls (.long v :: st)) := by
  subst hp
  rintro T locs cl sl ⟨X, N0, e0, bc, bs⟩
  exact ⟨T, locs, ⟨X, N0, e0, bc, bs⟩, fun target k => X.ldc2Long C.1 C.2.2.2.1 (mv C.2.2.1 w) (g := mkF m pc ls st) rfl (C.d hd) target k⟩
theorem OG.ldcS (C : OC p s m meth c Z own nm bytes ml ret) {i : Nat} {t : String} {a : Addr} (w : (Cond.stringRef own i t).before a0 Z = true) (F : Lit Z own i a) (hd : decode bytes pc = .ok (.ldc i, 2)) (hp : pc + 2 = pc') : OG p l e R s m args below meth c n0 h (mkF m pc ls st) (mkF m pc' ls (.ref a :: st)) := by
  subst hp
  rintro T locs cl sl ⟨X, N0, e0, bc, bs⟩
  exact ⟨T, locs, ⟨X, N0, e0, bc, bs⟩, fun target k => ldcR X C.1 C.2.2.1 C.2.2.2.1 w F (g := mkF m pc ls st) rfl (C.d hd) target k⟩
theorem OG.getF (C : OC p s m meth c Z own nm bytes ml ret) {R0 O n d host : String} {i : Nat} {a : Addr} {v : Value} (w : (Cond.fieldLink own i R0 n d).before a0 Z = true ∨ (Cond.fieldLinkNest own i R0 n d host).before a0 Z = true) (via : Via Z R0 O n d) (F : Fld Z h a O n d v) (hd : decode bytes pc = .ok (.getfield i, 3)) (hp : pc + 3 = pc') :
    OG p l e R s m args below meth c n0 h (mkF m pc ls (.ref a :: st)) (mkF m pc' ls (v :: st)) := by
  subst hp
  rintro T locs cl sl ⟨X, N0, e0, bc, bs⟩
  obtain ⟨T', X', e', k⟩ := RoadKit.getF X C.1 C.2.2.1 C.2.2.2.1 w via e0 F (g := mkF m pc ls (.ref a :: st)) rfl rfl (C.d hd)
  exact ⟨T', locs, ⟨X', N0, e', bc, bs⟩, k⟩
theorem OG.getS (C : OC p s m meth c Z own nm bytes ml ret) {R0 O n d host : String} {i : Nat} {v : Value} (w : (Cond.fieldLink own i R0 n d).before a0 Z = true ∨ (Cond.fieldLinkNest own i R0 n d host).before a0 Z = true) (via : Via Z R0 O n d) (F : Sta Z h O n d v) (hd : decode bytes pc = .ok (.getstatic i, 3)) (hp : pc + 3 = pc') :
    OG p l e R s m args below meth c n0 h (mkF m pc ls st) (mkF m pc' ls (v :: st)) := by
  subst hp
  rintro T locs cl sl ⟨X, N0, e0, bc, bs⟩
  obtain ⟨T', X', e', k⟩ := getS2 X C.1 C.2.2.1 C.2.2.2.1 w via e0 F (g := mkF m pc ls st) rfl (C.d hd)
  exact ⟨T', locs, ⟨X', N0, e', bc, bs⟩, k⟩
/-- an array and what stands in it -/
def OA (Z : State) (h : Heap) (a : Addr) (ty : FieldType) (vs : List Value) : Prop := ∃ c : Cell, Arr Z h a c ty ∧ c.slots.toList = vs
theorem OA.lt {a : Addr} {ty : FieldType} {vs : List Value} (A : OA Z h a ty vs) : a < h.size := by obtain ⟨c, A, -⟩ := A; exact A.lt
theorem OA.ext {h' : Heap} {a : Addr} {ty : FieldType} {vs : List Value} (A : OA Z h a ty vs) (E : Ext h h') : OA Z h' a ty vs := by obtain ⟨c, A, r⟩ := A; exact ⟨c, A.ext E, r⟩
theorem OA.other {h' : Heap} {a b : Addr} {k : Nat} {v : Value} {ty : FieldType} {vs : List Value} (A : OA Z h a ty vs) (W : Wr h h' b k v) (q : a ≠ b) : OA Z h' a ty vs := by obtain ⟨c, A, r⟩ := A; exact ⟨c, A.other W q, r⟩
theorem OA.same {h' : Heap} {a : Addr} {k : Nat} {v : Value} {ty : FieldType} {vs : List Value} (A : OA Z h a ty vs) (W : Wr h h' a k v) : OA Z h' a ty (vs.set k v) := by
  obtain ⟨c, A, r⟩ := A
  exact ⟨_, A.same W, by subst r; simp [Cell.setSlot]⟩
theorem OA.keep {h' : Heap} {a : Addr} {ws : List Addr} {ty : FieldType} {vs : List Value} (A : OA Z h a ty vs) (W : Keep h h' ws) (q : a ∉ ws) : OA Z h' a ty vs := by obtain ⟨c, A, r⟩ := A; exact ⟨c, ⟨W.2.1 a c A.1 q, A.2⟩, r⟩
theorem OA.inb {c : Cell} {vs : List Value} {j : Int32} (r : c.slots.toList = vs) (q : 0 ≤ j.toInt ∧ j.toInt < vs.length) : ¬ (j < 0 ∨ c.slots.size ≤ j.toNatClampNeg) := by
  have : c.slots.size = vs.length := by rw [← r]; simp
  rw [Int32.lt_iff_toInt_lt, Int32.toNatClampNeg]
  simp only [Int32.reduceToInt]; omega
theorem own_ib {j : Int32} {vs : List Value} {n : Nat} (q : vs.length = n) (r : 0 ≤ j.toInt ∧ j.toInt < (n : Int)) : 0 ≤ j.toInt ∧ j.toInt < vs.length := by rw [q]; exact r
theorem OA.new {k : ClassId} {a : Addr} {ty : FieldType} {z : Int32} {n : Nat} (A : Arr Z h a (newA k ty z) ty) (q : z.toNatClampNeg = n) : OA Z h a ty (List.replicate n (defaultValue ty)) := ⟨_, A, by subst q; simp [newA]⟩
theorem OG.laload (C : OC p s m meth c Z own nm bytes ml ret) {a : Addr} {j : Int32} {vs : List Value} {v : Value} (F : OA Z h a .long vs) (q : 0 ≤ j.toInt ∧ j.toInt < vs.length) (hv : vs[j.toNatClampNeg]? = some v) (hd : decode bytes pc = .ok (.laload, 1)) (hp : pc + 1 = pc') :
    OG p l e R s m args below meth c n0 h (mkF m pc ls (.int j :: .ref a :: st)) (mkF m pc' ls (v :: st)) := by
  subst hp
  rintro T locs cl sl ⟨X, N0, e0, bc, bs⟩
  obtain ⟨cc, A, r⟩ := F
  exact ⟨T, locs, ⟨X, N0, e0, bc, bs⟩, X.laload C.1 (by rw [e0]; exact A.1) (State.isArrayOf_alike C.2.2.1.alike A.2.1) A.2.2 (OA.inb r q) (by rw [← r] at hv; simpa using hv) (g := mkF m pc ls (.int j :: .ref a :: st)) rfl rfl (C.d hd)⟩
theorem OG.iaload (C : OC p s m meth c Z own nm bytes ml ret) {a : Addr} {j : Int32} {vs : List Value} {v : Value} (F : OA Z h a .int vs) (q : 0 ≤ j.toInt ∧ j.toInt < vs.length) (hv : vs[j.toNatClampNeg]? = some v) (hd : decode bytes pc = .ok (.iaload, 1)) (hp : pc + 1 = pc') :
    OG p l e R s m args below meth c n0 h (mkF m pc ls (.int j :: .ref a :: st)) (mkF m pc' ls (v :: st)) := by
  subst hp
  rintro T locs cl sl ⟨X, N0, e0, bc, bs⟩
  obtain ⟨cc, A, r⟩ := F
  exact ⟨T, locs, ⟨X, N0, e0, bc, bs⟩, X.iaload C.1 (by rw [e0]; exact A.1) (State.isArrayOf_alike C.2.2.1.alike A.2.1) A.2.2 (OA.inb r q) (by rw [← r] at hv; simpa using hv) (g := mkF m pc ls (.int j :: .ref a :: st)) rfl rfl (C.d hd)⟩
theorem OG.caload (C : OC p s m meth c Z own nm bytes ml ret) {a : Addr} {j : Int32} {vs : List Value} {v : Value} (F : OA Z h a .char vs) (q : 0 ≤ j.toInt ∧ j.toInt < vs.length) (hv : vs[j.toNatClampNeg]? = some v) (hd : decode bytes pc = .ok (.caload, 1)) (hp : pc + 1 = pc') :
    OG p l e R s m args below meth c n0 h (mkF m pc ls (.int j :: .ref a :: st)) (mkF m pc' ls (v :: st)) := by
  subst hp
  rintro T locs cl sl ⟨X, N0, e0, bc, bs⟩
  obtain ⟨cc, A, r⟩ := F
  exact ⟨T, locs, ⟨X, N0, e0, bc, bs⟩, X.caload C.1 (by rw [e0]; exact A.1) (State.isArrayOf_alike C.2.2.1.alike A.2.1) A.2.2 (OA.inb r q) (by rw [← r] at hv; simpa using hv) (g := mkF m pc ls (.int j :: .ref a :: st)) rfl rfl (C.d hd)⟩
theorem OG.baload (C : OC p s m meth c Z own nm bytes ml ret) {a : Addr} {j : Int32} {vs : List Value} {v : Value} (F : OA Z h a .byte vs) (q : 0 ≤ j.toInt ∧ j.toInt < vs.length) (hv : vs[j.toNatClampNeg]? = some v) (hd : decode bytes pc = .ok (.baload, 1)) (hp : pc + 1 = pc') :
    OG p l e R s m args below meth c n0 h (mkF m pc ls (.int j :: .ref a :: st)) (mkF m pc' ls (v :: st)) := by
  subst hp
  rintro T locs cl sl ⟨X, N0, e0, bc, bs⟩
  obtain ⟨cc, A, r⟩ := F
  exact ⟨T, locs, ⟨X, N0, e0, bc, bs⟩, X.baloadBytes C.1 (by rw [e0]; exact A.1) (State.isArrayOf_alike C.2.2.1.alike A.2.1) A.2.2 (OA.inb r q) (by rw [← r] at hv; simpa using hv) (g := mkF m pc ls (.int j :: .ref a :: st)) rfl rfl (C.d hd)⟩
theorem OG.aaload (C : OC p s m meth c Z own nm bytes ml ret) {a : Addr} {j : Int32} {ty : FieldType} {vs : List Value} {v : Value} (F : OA Z h a ty vs) (ht : ty.isReference = true) (q : 0 ≤ j.toInt ∧ j.toInt < vs.length) (hv : vs[j.toNatClampNeg]? = some v) (hd : decode bytes pc = .ok (.aaload, 1)) (hp : pc + 1 = pc') :
    OG p l e R s m args below meth c n0 h (mkF m pc ls (.int j :: .ref a :: st)) (mkF m pc' ls (v :: st)) := by
  subst hp
  rintro T locs cl sl ⟨X, N0, e0, bc, bs⟩
  obtain ⟨cc, A, r⟩ := F
  exact ⟨T, locs, ⟨X, N0, e0, bc, bs⟩, X.aaload C.1 (by rw [e0]; exact A.1) (State.isArrayOf_alike C.2.2.1.alike A.2.1) ht A.2.2 (OA.inb r q) (by rw [← r] at hv; simpa using hv) (g := mkF m pc ls (.int j :: .ref a :: st)) rfl rfl (C.d hd)⟩
theorem OG.arraylength (C : OC p s m meth c Z own nm bytes ml ret) {a : Addr} {ty : FieldType} {vs : List Value} {z : Int32} (F : OA Z h a ty vs) (hz : vs.length.toInt32 = z) (hd : decode bytes pc = .ok (.arraylength, 1)) (hp : pc + 1 = pc') :
    OG p l e R s m args below meth c n0 h (mkF m pc ls (.ref a :: st)) (mkF m pc' ls (.int z :: st)) := by
  subst hp hz
  rintro T locs cl sl ⟨X, N0, e0, bc, bs⟩
  obtain ⟨cc, A, r⟩ := F
  refine ⟨T, locs, ⟨X, N0, e0, bc, bs⟩, fun t k => X.arraylength C.1 (by rw [e0]; exact A.1) (State.isArrayOf_alike C.2.2.1.alike A.2.1) (g := mkF m pc ls (.ref a :: st)) rfl rfl (C.d hd) t ?_⟩
  have : cc.slots.size = vs.length := by rw [← r]; simp
  rw [this]; exact k
/-! returns -/
theorem OW.retI (C : OC p s m meth c Z own nm bytes ml (some .int)) {z : Int32} (hd : decode bytes pc = .ok (.ireturn, 1)) (hK : cl ≤ K) (hN : sl ≤ N) (hQ : Q (some (.int z)) h) : OW p l e R s m args below meth c n0 Q K N h cl sl (mkF m pc ls (.int z :: st)) := fun T locs ⟨X, N0, e0, bc, bs⟩ => by
  obtain ⟨fs, hr, hrun, hended, hW, hsame⟩ := X.leave (v := some (.int z)) (fun q => by rw [C.2.2.2.2.2.1] at q; cases q) C.2.2.2.2.2.2.1
  exact ⟨_, _, retOut X C.1 C.2.2.2.2.2.1 rfl (Or.inl ⟨rfl, Or.inl rfl, z, rfl⟩) (C.d hd) hr, hrun, hended, _, locs, rfl, ⟨by show Q _ T.heap; rw [e0]; exact hQ, N0⟩, ⟨_, rfl⟩, hW, hsame.mono hK hN⟩
theorem OW.retN {t : FieldType} (C : OC p s m meth c Z own nm bytes ml (some t)) {z : Int32} (ht : t = .boolean ∨ t = .byte ∨ t = .char ∨ t = .short) (hd : decode bytes pc = .ok (.ireturn, 1)) (hK : cl ≤ K) (hN : sl ≤ N) (hQ : Q (some (.int (nar t z))) h) : OW p l e R s m args below meth c n0 Q K N h cl sl (mkF m pc ls (.int z :: st)) := fun T locs ⟨X, N0, e0, bc, bs⟩ => by
  obtain ⟨fs, hr, hrun, hended, hW, hsame⟩ := X.leave (v := some (.int (nar t z))) (fun q => by rw [C.2.2.2.2.2.1] at q; cases q) C.2.2.2.2.2.2.1
  exact ⟨_, _, RoadKit.retN X C.1 C.2.2.2.2.2.1 ht (C.d hd) hr, hrun, hended, _, locs, rfl, ⟨by show Q _ T.heap; rw [e0]; exact hQ, N0⟩, ⟨_, rfl⟩, hW, hsame.mono hK hN⟩
theorem OW.retL (C : OC p s m meth c Z own nm bytes ml (some .long)) {z : Int64} (hd : decode bytes pc = .ok (.lreturn, 1)) (hK : cl ≤ K) (hN : sl ≤ N) (hQ : Q (some (.long z)) h) : OW p l e R s m args below meth c n0 Q K N h cl sl (mkF m pc ls (.long z :: st)) := fun T locs ⟨X, N0, e0, bc, bs⟩ => by
  obtain ⟨fs, hr, hrun, hended, hW, hsame⟩ := X.leave (v := some (.long z)) (fun q => by rw [C.2.2.2.2.2.1] at q; cases q) C.2.2.2.2.2.2.1
  exact ⟨_, _, retOut X C.1 C.2.2.2.2.2.1 rfl (Or.inr (Or.inl ⟨rfl, rfl, z, rfl⟩)) (C.d hd) hr, hrun, hended, _, locs, rfl, ⟨by show Q _ T.heap; rw [e0]; exact hQ, N0⟩, ⟨_, rfl⟩, hW, hsame.mono hK hN⟩
theorem OW.retA {t : FieldType} (C : OC p s m meth c Z own nm bytes ml (some t)) {v : Value} (ht : t.isReference = true) (hv : v.isRef = true) (hd : decode bytes pc = .ok (.areturn, 1)) (hK : cl ≤ K) (hN : sl ≤ N) (hQ : Q (some v) h) : OW p l e R s m args below meth c n0 Q K N h cl sl (mkF m pc ls (v :: st)) := fun T locs ⟨X, N0, e0, bc, bs⟩ => by
  have hn : narrow t v = v := by cases t <;> first | (cases ht; done) | (cases v <;> rfl)
  obtain ⟨fs, hr, hrun, hended, hW, hsame⟩ := X.leave (v := some v) (fun q => by rw [C.2.2.2.2.2.1] at q; cases q) C.2.2.2.2.2.2.1
  exact ⟨_, _, retOut X C.1 C.2.2.2.2.2.1 hn (Or.inr (Or.inr (Or.inr (Or.inr ⟨rfl, ht, hv⟩)))) (C.d hd) hr, hrun, hended, _, locs, rfl, ⟨by show Q _ T.heap; rw [e0]; exact hQ, N0⟩, ⟨_, rfl⟩, hW, hsame.mono hK hN⟩
theorem OW.retV (C : OC p s m meth c Z own nm bytes ml none) (hd : decode bytes pc = .ok (.return_, 1)) (hK : cl ≤ K) (hN : sl ≤ N) (hQ : Q none h) : OW p l e R s m args below meth c n0 Q K N h cl sl (mkF m pc ls []) := fun T locs ⟨X, N0, e0, bc, bs⟩ => by
  obtain ⟨fs, hr, hrun, hended, hW, hsame⟩ := X.leave (v := none) (fun _ => rfl) C.2.2.2.2.2.2.1
  exact ⟨_, _, X.returnOut C.1 C.2.2.2.2.2.1 (C.d hd) hr, hrun, hended, _, locs, rfl, ⟨by show Q _ T.heap; rw [e0]; exact hQ, N0⟩, ⟨_, rfl⟩, hW, hsame.mono hK hN⟩
/-! the heap: new, putfield, arrays -/
theorem OW.putF (C : OC p s m meth c Z own nm bytes ml ret) {R0 O n d host Cl : String} {i kk : Nat} {ty : FieldType} {a : Addr} {v old : Value} (w : (Cond.fieldLink own i R0 n d).before a0 Z = true ∨ (Cond.fieldLinkNest own i R0 n d host).before a0 Z = true) (via : Via Z R0 O n d) (F : Fld Z h a O n d old) (E : Exa Z h a Cl)
    (L : (Cond.lays Cl O n d).before a0 Z = true ∨ ((Cond.laysFinal Cl O n d).before a0 Z = true ∧ own = O ∧ nm = "<init>")) (wi : (Cond.instantiable Cl kk).before a0 Z = true) (hty : parseFieldDescriptor d = some ty) (hn : narrow ty v = v) (hf : fits ty v = true) (hna : n0 ≤ a) (hd : decode bytes pc = .ok (.putfield i, 3)) (hp : pc + 3 = pc')
    (k : ∀ h', Wr h h' a (slotOf Z O n d) v → OW p l e R s m args below meth c n0 Q K N h' cl sl (mkF m pc' ls st)) : OW p l e R s m args below meth c n0 Q K N h cl sl (mkF m pc ls (v :: .ref a :: st)) := fun T locs ⟨X, N0, e0, bc, bs⟩ => by
  subst hp
  obtain ⟨T', h', X', e', W, kk⟩ := RoadKit.putF X C.1 C.2.2.1 C.2.2.2.1 w via e0 F E (L.imp id fun q => ⟨q.1, q.2.1, C.2.2.2.2.2.2.2.trans q.2.2⟩) wi hty hn hf (g := mkF m pc ls (v :: .ref a :: st)) rfl rfl (C.d hd)
  obtain ⟨s₂, o, q, r⟩ := k h' W T' _ ⟨X', Fr.snoc X' N0 hna, e', bc, bs⟩
  exact ⟨s₂, o, kk _ q, r⟩
theorem OW.newO (C : OC p s m meth c Z own nm bytes ml ret) {Cl : String} {i nn : Nat} (w : (Cond.classLink own i Cl).before a0 Z = true) (wi : (Cond.instantiable Cl nn).before a0 Z = true) (wz : (Cond.initialized Cl).before a0 Z = true) (hd : decode bytes pc = .ok (.new i, 3)) (hc : cl + 1 ≤ R.cells) (hl : sl + nn ≤ R.slots) (hp : pc + 3 = pc')
    (k : ∀ (a : Addr) h', h.size = a → Ext h h' → Exa Z h' a Cl → (∀ {O nm d : String} {ty : FieldType}, Laid Z a0 Cl O nm d → parseFieldDescriptor d = some ty → Fld Z h' a O nm d (defaultValue ty)) → OW p l e R s m args below meth c n0 Q K N h' (cl + 1) (sl + nn) (mkF m pc' ls (.ref a :: st))) : OW p l e R s m args below meth c n0 Q K N h cl sl (mkF m pc ls st) := fun T locs ⟨X, N0, e0, bc, bs⟩ => by
  subst hp
  obtain ⟨T', h', X', e', E, A, D, -, kk⟩ := RoadKit.newO X C.1 C.2.2.1 C.2.2.2.1 w wi wz e0 (g := mkF m pc ls st) rfl (C.d hd) hc hl
  obtain ⟨s₂, o, q, r⟩ := k _ h' rfl E A D T' _ ⟨X', N0, e', hc, hl⟩
  exact ⟨s₂, o, kk _ q, r⟩
theorem OW.newP (C : OC p s m meth c Z own nm bytes ml ret) {aty : ArrayType} {n : Int32} {cap : Nat} {ty : FieldType} (hty : newarray.typeOf aty = ty) (w : (Cond.arrayClass ty).before a0 Z = true) (hn : ¬ n < 0) (hcap : n.toNatClampNeg = cap) (hb : cap * 8 ≤ 536870912) (hd : decode bytes pc = .ok (.newarray aty, 2)) (hc : cl + 1 ≤ R.cells) (hl : sl + cap ≤ R.slots) (hp : pc + 2 = pc')
    (k : ∀ (a : Addr) h', h.size = a → Ext h h' → OA Z h' a ty (List.replicate cap (defaultValue ty)) → OW p l e R s m args below meth c n0 Q K N h' (cl + 1) (sl + cap) (mkF m pc' ls (.ref a :: st))) : OW p l e R s m args below meth c n0 Q K N h cl sl (mkF m pc ls (.int n :: st)) := fun T locs ⟨X, N0, e0, bc, bs⟩ => by
  subst hp hty
  obtain ⟨T', h', cA, X', e', E, A, kk⟩ := RoadKit.newP X C.1 C.2.2.1 w e0 (g := mkF m pc ls (.int n :: st)) rfl (C.d hd) rfl hn (Nat.le_of_eq hcap) hb hc hl
  obtain ⟨s₂, o, q, r⟩ := k _ h' rfl E (OA.new A hcap) T' _ ⟨X', N0, e', hc, hl⟩
  exact ⟨s₂, o, kk _ q, r⟩
theorem OW.lastore (C : OC p s m meth c Z own nm bytes ml ret) {a : Addr} {j : Int32} {x : Int64} {vs : List Value} (F : OA Z h a .long vs) (q : 0 ≤ j.toInt ∧ j.toInt < vs.length) (hna : n0 ≤ a) (hd : decode bytes pc = .ok (.lastore, 1)) (hp : pc + 1 = pc')
    (k : ∀ h', Wr h h' a j.toNatClampNeg (.long x) → OW p l e R s m args below meth c n0 Q K N h' cl sl (mkF m pc' ls st)) : OW p l e R s m args below meth c n0 Q K N h cl sl (mkF m pc ls (.long x :: .int j :: .ref a :: st)) := fun T locs ⟨X, N0, e0, bc, bs⟩ => by
  subst hp
  obtain ⟨cc, A, r⟩ := F
  obtain ⟨T', h', X', e', W, kk⟩ := stJ X C.1 C.2.2.1 e0 A (OA.inb r q) (g := mkF m pc ls (.long x :: .int j :: .ref a :: st)) rfl rfl (C.d hd)
  obtain ⟨s₂, o, q, r⟩ := k h' W T' _ ⟨X', Fr.snoc X' N0 hna, e', bc, bs⟩
  exact ⟨s₂, o, kk _ q, r⟩
theorem OW.iastore (C : OC p s m meth c Z own nm bytes ml ret) {a : Addr} {j x : Int32} {vs : List Value} (F : OA Z h a .int vs) (q : 0 ≤ j.toInt ∧ j.toInt < vs.length) (hna : n0 ≤ a) (hd : decode bytes pc = .ok (.iastore, 1)) (hp : pc + 1 = pc')
    (k : ∀ h', Wr h h' a j.toNatClampNeg (.int x) → OW p l e R s m args below meth c n0 Q K N h' cl sl (mkF m pc' ls st)) : OW p l e R s m args below meth c n0 Q K N h cl sl (mkF m pc ls (.int x :: .int j :: .ref a :: st)) := fun T locs ⟨X, N0, e0, bc, bs⟩ => by
  subst hp
  obtain ⟨cc, A, r⟩ := F
  obtain ⟨T', h', X', e', W, kk⟩ := stI X C.1 C.2.2.1 e0 A (OA.inb r q) (g := mkF m pc ls (.int x :: .int j :: .ref a :: st)) rfl rfl (C.d hd)
  obtain ⟨s₂, o, q, r⟩ := k h' W T' _ ⟨X', Fr.snoc X' N0 hna, e', bc, bs⟩
  exact ⟨s₂, o, kk _ q, r⟩
theorem OW.bastore (C : OC p s m meth c Z own nm bytes ml ret) {a : Addr} {j x : Int32} {vs : List Value} (F : OA Z h a .byte vs) (q : 0 ≤ j.toInt ∧ j.toInt < vs.length) (hna : n0 ≤ a) (hd : decode bytes pc = .ok (.bastore, 1)) (hp : pc + 1 = pc')
    (k : ∀ h', Wr h h' a j.toNatClampNeg (.int (nar .byte x)) → OW p l e R s m args below meth c n0 Q K N h' cl sl (mkF m pc' ls st)) : OW p l e R s m args below meth c n0 Q K N h cl sl (mkF m pc ls (.int x :: .int j :: .ref a :: st)) := fun T locs ⟨X, N0, e0, bc, bs⟩ => by
  subst hp
  obtain ⟨cc, A, r⟩ := F
  obtain ⟨T', h', X', e', W, kk⟩ := stB X C.1 C.2.2.1 e0 A (OA.inb r q) (g := mkF m pc ls (.int x :: .int j :: .ref a :: st)) rfl rfl (C.d hd)
  obtain ⟨s₂, o, q, r⟩ := k h' W T' _ ⟨X', Fr.snoc X' N0 hna, e', bc, bs⟩
  exact ⟨s₂, o, kk _ q, r⟩
theorem OW.castore (C : OC p s m meth c Z own nm bytes ml ret) {a : Addr} {j x : Int32} {vs : List Value} (F : OA Z h a .char vs) (q : 0 ≤ j.toInt ∧ j.toInt < vs.length) (hna : n0 ≤ a) (hd : decode bytes pc = .ok (.castore, 1)) (hp : pc + 1 = pc')
    (k : ∀ h', Wr h h' a j.toNatClampNeg (.int (nar .char x)) → OW p l e R s m args below meth c n0 Q K N h' cl sl (mkF m pc' ls st)) : OW p l e R s m args below meth c n0 Q K N h cl sl (mkF m pc ls (.int x :: .int j :: .ref a :: st)) := fun T locs ⟨X, N0, e0, bc, bs⟩ => by
  subst hp
  obtain ⟨cc, A, r⟩ := F
  obtain ⟨T', h', X', e', W, kk⟩ := stC X C.1 C.2.2.1 e0 A (OA.inb r q) (g := mkF m pc ls (.int x :: .int j :: .ref a :: st)) rfl rfl (C.d hd)
  obtain ⟨s₂, o, q, r⟩ := k h' W T' _ ⟨X', Fr.snoc X' N0 hna, e', bc, bs⟩
  exact ⟨s₂, o, kk _ q, r⟩
theorem OG.initO (C : OC p s m meth c Z own nm bytes ml ret) {i W : Nat} {a : Addr} (w1 : (Cond.methodLink own i Lib.objectInit).before a0 Z = true) (w2 : (Cond.instanceMethod Lib.objectInit).before a0 Z = true) (w3 : (Cond.code Lib.objectInit ⟨#[0xb1]⟩ 1 none).before a0 Z = true) (hd : decode bytes pc = .ok (.invokespecial i, 3)) (hsz : ls.size = ml) (hf : 1 ≤ R.frames) (hW : (st.map fun v => v.category).sum = W) (hl : W + 12 ≤ R.locals) (hp : pc + 3 = pc') :
    OG p l e R s m args below meth c n0 h (mkF m pc ls (.ref a :: st)) (mkF m pc' ls st) := by
  subst hp
  rintro T locs cl sl ⟨X, N0, e0, bc, bs⟩
  obtain ⟨T', X', e', k⟩ := RoadKit.initO X C.1 C.2.2.1 C.2.2.2.1 w1 w2 w3 e0 (g := mkF m pc ls (.ref a :: st)) rfl (by rw [C.2.2.2.2.1]; exact hsz) rfl (C.d hd) hf (W := W) (by show 2 * 0 + _ ≤ _; omega) hl
  exact ⟨T', locs, ⟨X', N0, e', bc, bs⟩, k⟩
/-! contracts and calls -/
def OM (l : Launch) (Z : State) (y : MethodName) (bytes : ByteArray) (ml : Nat) (ret : Option FieldType) (rm : Room) (n0 : Nat) (h : Heap) (as' : Array Value) (Q : Option Value → Heap → Prop) (K N : Nat) : Prop :=
  ∀ ws : List Cond, MetFree l y (head1 (Cond.code y bytes ml ret :: ws) rm) (fun a U => a = as' ∧ Z.Warmed39 U.vm ∧ U.heap = h) (fun _ _ _ _ _ => True) (fun _ U o U' => ∃ v L, o = .returned v ∧ (Q v U'.heap ∧ Fr n0 L) ∧ FrameEnd U o U' L K N)
theorem OM.of_body {y : MethodName} {rm : Room} {as' : Array Value} (hy : plainFor y = true) (hef : ∀ m, entryFrame m as' ml = mkF m 0 ls [])
    (body : ∀ (p : Program) (e : Env) (s : State) (m : MethodId) (below : List Frame) (meth : Method) (c : Code), OC p s m meth c Z y.cls y.name bytes ml ret → OW p l e rm s m as' below meth c n0 Q K N h 0 0 (mkF m 0 ls [])) : OM l Z y bytes ml ret rm n0 h as' Q K N := by
  intro ws
  refine MetFree.of_bodySF hy hisR ?_
  intro p e s m args below meth c s₁ Bd hml0 hP hK
  obtain ⟨rfl, hZ, hh⟩ := hP
  have e0 : s₁.heap = h := by rw [← hh, Bd.state]; rfl
  have X0 : Stand p l e rm s m args below meth c s₁ [] 0 0 := Stand.of_body Bd
  rw [hef m]
  exact body p e s m below meth c ⟨Bd.exec, Bd.bytes, hZ, findClass_of_methodNamed Bd.named, hml0, Bd.returns, Bd.notSynchronized, (name_of_methodNamed Bd.named Bd.method).1⟩ s₁ [] ⟨X0, Fr.nil n0, e0, Nat.zero_le _, Nat.zero_le _⟩
theorem OW.callS (C : OC p s m meth c Z own nm bytes ml ret) {i : Nat} {y : MethodName} {bytes' : ByteArray} {ml' W : Nat} {ret' r0 : Option FieldType} {rm : Room} {argsL rest : List Value} {ps : List FieldType} {Q' : Option Value → Heap → Prop}
    (w1 : (Cond.methodLink own i y).before a0 Z = true) (w2 : (Cond.static y).before a0 Z = true) (w3 : (Cond.initialized y.cls).before a0 Z = true) (w4 : (Cond.code y bytes' ml' ret').before a0 Z = true) (hy : y.cls ≠ "java/lang/invoke/MethodHandle" ∧ y.cls ≠ "java/lang/invoke/VarHandle")
    (hM : OM l Z y bytes' ml' ret' rm n0 h argsL.toArray Q' rm.cells rm.slots) (hd : decode bytes pc = .ok (.invokestatic i, 3)) (hpd : parseMethodDescriptor y.desc = some ⟨ps, r0⟩) (hlen : argsL.length = ps.length) (hst : st = argsL.reverse ++ rest) (hsz : ls.size = ml) (hW : (rest.map fun v => v.category).sum = W)
    (hf : rm.frames + 1 ≤ R.frames) (hlo : W + (ml' + 11) + rm.locals ≤ R.locals) (hcl : cl + rm.cells ≤ R.cells) (hsl : sl + rm.slots ≤ R.slots) (hp : pc + 3 = pc')
    (k : ∀ v h', Q' v h' → OW p l e R s m args below meth c n0 Q K N h' (cl + rm.cells) (sl + rm.slots) (mkF m pc' ls (v.toList ++ rest))) : OW p l e R s m args below meth c n0 Q K N h cl sl (mkF m pc ls st) := fun T locs ⟨X, N0, e0, bc, bs⟩ => by
  subst hp
  obtain ⟨v, vm, ⟨T', L', cl', sl'⟩, -, X', ⟨Lc, ⟨hQ, hL⟩, e1, e2, e3⟩, kk⟩ := Jvm.LawKit.callS X C.1 C.2.2.2.1 (mv C.2.2.1 w1) (mv C.2.2.1 w2) (mv C.2.2.1 w3) (mv C.2.2.1 w4) hy (backOf (W := W) (Q := fun v h L => Q' v h ∧ Fr n0 L) (hM []) C.2.2.1 w4 w3 hf hlo) (g := mkF m pc ls st) rfl (by rw [C.2.2.2.2.1]; exact hsz) (argsL := argsL) (rest := rest) (lenOf hpd hlen) hst (by show 2 * 0 + _ ≤ _; omega) (C.d hd) (fun _ _ => ⟨rfl, e0, hcl, hsl⟩)
  dsimp only [Pt.U, Pt.locs, Pt.cells, Pt.slots] at X' e1 e2 e3 kk hQ
  subst e1 e2 e3
  obtain ⟨s₂, o, q, r⟩ := k v _ hQ T' _ ⟨X', Fr.app N0 hL, rfl, hcl, hsl⟩
  exact ⟨s₂, o, kk _ q, r⟩
theorem OG.callS (C : OC p s m meth c Z own nm bytes ml ret) {i : Nat} {y : MethodName} {bytes' : ByteArray} {ml' W fr lo : Nat} {ret' r0 : Option FieldType} {argsL rest : List Value} {ps : List FieldType} {w : Value}
    (w1 : (Cond.methodLink own i y).before a0 Z = true) (w2 : (Cond.static y).before a0 Z = true) (w3 : (Cond.initialized y.cls).before a0 Z = true) (w4 : (Cond.code y bytes' ml' ret').before a0 Z = true) (hy : y.cls ≠ "java/lang/invoke/MethodHandle" ∧ y.cls ≠ "java/lang/invoke/VarHandle")
    (hM : OM l Z y bytes' ml' ret' ⟨fr, 0, 0, lo⟩ n0 h argsL.toArray (fun v h' => v = some w ∧ h' = h) 0 0) (hd : decode bytes pc = .ok (.invokestatic i, 3)) (hpd : parseMethodDescriptor y.desc = some ⟨ps, r0⟩) (hlen : argsL.length = ps.length) (hst : st = argsL.reverse ++ rest) (hsz : ls.size = ml) (hW : (rest.map fun v => v.category).sum = W)
    (hf : fr + 1 ≤ R.frames) (hlo : W + (ml' + 11) + lo ≤ R.locals) (hp : pc + 3 = pc') :
    OG p l e R s m args below meth c n0 h (mkF m pc ls st) (mkF m pc' ls (w :: rest)) := fun T locs cl sl ⟨X, N0, e0, bc, bs⟩ => by
  subst hp
  obtain ⟨v, vm, ⟨T', L', cl', sl'⟩, -, X', ⟨Lc, ⟨⟨rfl, hQ⟩, hL⟩, e1, e2, e3⟩, kk⟩ := Jvm.LawKit.callS X C.1 C.2.2.2.1 (mv C.2.2.1 w1) (mv C.2.2.1 w2) (mv C.2.2.1 w3) (mv C.2.2.1 w4) hy (backOf (W := W) (Q := fun v h' L => (v = some w ∧ h' = h) ∧ Fr n0 L) (hM []) C.2.2.1 w4 w3 hf hlo) (g := mkF m pc ls st) rfl (by rw [C.2.2.2.2.1]; exact hsz) (argsL := argsL) (rest := rest) (lenOf hpd hlen) hst (by show 2 * 0 + _ ≤ _; omega) (C.d hd) (fun _ _ => ⟨rfl, e0, bc, bs⟩)
  dsimp only [Pt.U, Pt.locs, Pt.cells, Pt.slots] at X' e1 e2 e3 kk hQ
  subst e1 e2 e3
  exact ⟨T', _, ⟨X', Fr.app N0 hL, hQ, bc, bs⟩, kk⟩
theorem OW.init (C : OC p s m meth c Z own nm bytes ml ret) {i : Nat} {y : MethodName} {bytes' : ByteArray} {ml' W : Nat} {r0 : Option FieldType} {rm : Room} {argsL rest : List Value} {ps : List FieldType} {Q' : Option Value → Heap → Prop} {a : Addr}
    (w1 : (Cond.methodLink own i y).before a0 Z = true) (w2 : (Cond.instanceMethod y).before a0 Z = true) (w3 : (Cond.initialized y.cls).before a0 Z = true) (w4 : (Cond.code y bytes' ml' none).before a0 Z = true) (hyi : y.name = "<init>") (hy : y.cls ≠ "java/lang/invoke/MethodHandle" ∧ y.cls ≠ "java/lang/invoke/VarHandle")
    (hM : OM l Z y bytes' ml' none rm n0 h (.ref a :: argsL).toArray Q' rm.cells rm.slots) (hd : decode bytes pc = .ok (.invokespecial i, 3)) (hpd : parseMethodDescriptor y.desc = some ⟨ps, r0⟩) (hlen : argsL.length = ps.length) (hst : st = argsL.reverse ++ .ref a :: rest) (hsz : ls.size = ml) (hW : (rest.map fun v => v.category).sum = W)
    (hf : rm.frames + 1 ≤ R.frames) (hlo : W + (ml' + 11) + rm.locals ≤ R.locals) (hcl : cl + rm.cells ≤ R.cells) (hsl : sl + rm.slots ≤ R.slots) (hp : pc + 3 = pc')
    (k : ∀ v h', Q' v h' → OW p l e R s m args below meth c n0 Q K N h' (cl + rm.cells) (sl + rm.slots) (mkF m pc' ls (v.toList ++ rest))) : OW p l e R s m args below meth c n0 Q K N h cl sl (mkF m pc ls st) := fun T locs ⟨X, N0, e0, bc, bs⟩ => by
  subst hp
  obtain ⟨v, vm, ⟨T', L', cl', sl'⟩, -, X', ⟨Lc, ⟨hQ, hL⟩, e1, e2, e3⟩, kk⟩ := X.specialBack C.1 hyi C.2.2.2.1 (mv C.2.2.1 w1) (mv C.2.2.1 w2) (mv C.2.2.1 w4) hy (backOf (W := W) (Q := fun v h L => Q' v h ∧ Fr n0 L) (hM []) C.2.2.1 w4 w3 hf hlo) (g := mkF m pc ls st) rfl (by rw [C.2.2.2.2.1]; exact hsz) (Steps.refl _) (a := a) (argsL := argsL) (rest := rest) (lenOf hpd hlen) hst (by show 2 * 0 + _ ≤ _; omega) (C.d hd) (fun _ _ => ⟨rfl, e0, hcl, hsl⟩)
  dsimp only [Pt.U, Pt.locs, Pt.cells, Pt.slots] at X' e1 e2 e3 kk hQ
  subst e1 e2 e3
  obtain ⟨s₂, o, q, r⟩ := k v _ hQ T' _ ⟨X', Fr.app N0 hL, rfl, hcl, hsl⟩
  exact ⟨s₂, o, kk.trans q, r⟩
theorem OG.init (C : OC p s m meth c Z own nm bytes ml ret) {i : Nat} {y : MethodName} {bytes' : ByteArray} {ml' W fr lo : Nat} {r0 : Option FieldType} {argsL rest : List Value} {ps : List FieldType} {a : Addr}
    (w1 : (Cond.methodLink own i y).before a0 Z = true) (w2 : (Cond.instanceMethod y).before a0 Z = true) (w3 : (Cond.initialized y.cls).before a0 Z = true) (w4 : (Cond.code y bytes' ml' none).before a0 Z = true) (hyi : y.name = "<init>") (hy : y.cls ≠ "java/lang/invoke/MethodHandle" ∧ y.cls ≠ "java/lang/invoke/VarHandle")
    (hM : OM l Z y bytes' ml' none ⟨fr, 0, 0, lo⟩ n0 h (.ref a :: argsL).toArray (fun v h' => v = none ∧ h' = h) 0 0) (hd : decode bytes pc = .ok (.invokespecial i, 3)) (hpd : parseMethodDescriptor y.desc = some ⟨ps, r0⟩) (hlen : argsL.length = ps.length) (hst : st = argsL.reverse ++ .ref a :: rest) (hsz : ls.size = ml) (hW : (rest.map fun v => v.category).sum = W)
    (hf : fr + 1 ≤ R.frames) (hlo : W + (ml' + 11) + lo ≤ R.locals) (hp : pc + 3 = pc') :
    OG p l e R s m args below meth c n0 h (mkF m pc ls st) (mkF m pc' ls rest) := fun T locs cl sl ⟨X, N0, e0, bc, bs⟩ => by
  subst hp
  obtain ⟨v, vm, ⟨T', L', cl', sl'⟩, -, X', ⟨Lc, ⟨⟨rfl, hQ⟩, hL⟩, e1, e2, e3⟩, kk⟩ := X.specialBack C.1 hyi C.2.2.2.1 (mv C.2.2.1 w1) (mv C.2.2.1 w2) (mv C.2.2.1 w4) hy (backOf (W := W) (Q := fun v h' L => (v = none ∧ h' = h) ∧ Fr n0 L) (hM []) C.2.2.1 w4 w3 hf hlo) (g := mkF m pc ls st) rfl (by rw [C.2.2.2.2.1]; exact hsz) (Steps.refl _) (a := a) (argsL := argsL) (rest := rest) (lenOf hpd hlen) hst (by show 2 * 0 + _ ≤ _; omega) (C.d hd) (fun _ _ => ⟨rfl, e0, bc, bs⟩)
  dsimp only [Pt.U, Pt.locs, Pt.cells, Pt.slots] at X' e1 e2 e3 kk hQ
  subst e1 e2 e3
  exact ⟨T', _, ⟨X', Fr.app N0 hL, hQ, bc, bs⟩, fun t q => kk.trans q⟩
theorem OW.callV (C : OC p s m meth c Z own nm bytes ml ret) {i : Nat} {y : MethodName} {bytes' : ByteArray} {ml' W : Nat} {ret' r0 : Option FieldType} {rm : Room} {argsL rest : List Value} {ps : List FieldType} {Q' : Option Value → Heap → Prop} {a : Addr} {Cl : String}
    (w1 : (Cond.methodLink own i y).before a0 Z = true) (wd : (Cond.declares y).before a0 Z = true) (ws : (Cond.selects Cl y y).before a0 Z = true) (w2 : (Cond.instanceMethod y).before a0 Z = true) (w3 : (Cond.initialized y.cls).before a0 Z = true) (w4 : (Cond.code y bytes' ml' ret').before a0 Z = true) (hy : y.cls ≠ "java/lang/invoke/MethodHandle" ∧ y.cls ≠ "java/lang/invoke/VarHandle") (E : Exa Z h a Cl)
    (hM : OM l Z y bytes' ml' ret' rm n0 h (.ref a :: argsL).toArray Q' rm.cells rm.slots) (hd : decode bytes pc = .ok (.invokevirtual i, 3)) (hpd : parseMethodDescriptor y.desc = some ⟨ps, r0⟩) (hlen : argsL.length = ps.length) (hst : st = argsL.reverse ++ .ref a :: rest) (hsz : ls.size = ml) (hW : (rest.map fun v => v.category).sum = W)
    (hf : rm.frames + 1 ≤ R.frames) (hlo : W + (ml' + 11) + rm.locals ≤ R.locals) (hcl : cl + rm.cells ≤ R.cells) (hsl : sl + rm.slots ≤ R.slots) (hp : pc + 3 = pc')
    (k : ∀ v h', Q' v h' → OW p l e R s m args below meth c n0 Q K N h' (cl + rm.cells) (sl + rm.slots) (mkF m pc' ls (v.toList ++ rest))) : OW p l e R s m args below meth c n0 Q K N h cl sl (mkF m pc ls st) := fun T locs ⟨X, N0, e0, bc, bs⟩ => by
  subst hp
  obtain ⟨cq, kq, qa, qb, qc⟩ := isOf C.2.2.1 e0 E
  obtain ⟨v, vm, ⟨T', L', cl', sl'⟩, -, X', ⟨Lc, ⟨hQ, hL⟩, e1, e2, e3⟩, kk⟩ := X.virtualBack C.1 C.2.2.2.1 (mv C.2.2.1 w1) (mv C.2.2.1 wd) (notFace_of_selects (args := #[]) (mv C.2.2.1 ws)) (mv C.2.2.1 ws) (mv C.2.2.1 w2) hy (backOf (W := W) (Q := fun v h L => Q' v h ∧ Fr n0 L) (hM []) C.2.2.1 w4 w3 hf hlo) qa qc (g := mkF m pc ls st) rfl (by rw [C.2.2.2.2.1]; exact hsz) (Steps.refl _) (argsL := argsL) (rest := rest) (lenOf hpd hlen) hst (by show 2 * 0 + _ ≤ _; omega) (C.d hd) (fun _ _ => ⟨rfl, e0, hcl, hsl⟩)
  dsimp only [Pt.U, Pt.locs, Pt.cells, Pt.slots] at X' e1 e2 e3 kk hQ
  subst e1 e2 e3
  obtain ⟨s₂, o, q, r⟩ := k v _ hQ T' _ ⟨X', Fr.app N0 hL, rfl, hcl, hsl⟩
  exact ⟨s₂, o, kk.trans q, r⟩
theorem OG.callV (C : OC p s m meth c Z own nm bytes ml ret) {i : Nat} {y : MethodName} {bytes' : ByteArray} {ml' W fr lo : Nat} {ret' r0 : Option FieldType} {argsL rest : List Value} {ps : List FieldType} {w : Value} {a : Addr} {Cl : String}
    (w1 : (Cond.methodLink own i y).before a0 Z = true) (wd : (Cond.declares y).before a0 Z = true) (ws : (Cond.selects Cl y y).before a0 Z = true) (w2 : (Cond.instanceMethod y).before a0 Z = true) (w3 : (Cond.initialized y.cls).before a0 Z = true) (w4 : (Cond.code y bytes' ml' ret').before a0 Z = true) (hy : y.cls ≠ "java/lang/invoke/MethodHandle" ∧ y.cls ≠ "java/lang/invoke/VarHandle") (E : Exa Z h a Cl)
    (hM : OM l Z y bytes' ml' ret' ⟨fr, 0, 0, lo⟩ n0 h (.ref a :: argsL).toArray (fun v h' => v = some w ∧ h' = h) 0 0) (hd : decode bytes pc = .ok (.invokevirtual i, 3)) (hpd : parseMethodDescriptor y.desc = some ⟨ps, r0⟩) (hlen : argsL.length = ps.length) (hst : st = argsL.reverse ++ .ref a :: rest) (hsz : ls.size = ml) (hW : (rest.map fun v => v.category).sum = W)
    (hf : fr + 1 ≤ R.frames) (hlo : W + (ml' + 11) + lo ≤ R.locals) (hp : pc + 3 = pc') :
    OG p l e R s m args below meth c n0 h (mkF m pc ls st) (mkF m pc' ls (w :: rest)) := fun T locs cl sl ⟨X, N0, e0, bc, bs⟩ => by
  subst hp
  obtain ⟨cq, kq, qa, qb, qc⟩ := isOf C.2.2.1 e0 E
  obtain ⟨v, vm, ⟨T', L', cl', sl'⟩, -, X', ⟨Lc, ⟨⟨rfl, hQ⟩, hL⟩, e1, e2, e3⟩, kk⟩ := X.virtualBack C.1 C.2.2.2.1 (mv C.2.2.1 w1) (mv C.2.2.1 wd) (notFace_of_selects (args := #[]) (mv C.2.2.1 ws)) (mv C.2.2.1 ws) (mv C.2.2.1 w2) hy (backOf (W := W) (Q := fun v h' L => (v = some w ∧ h' = h) ∧ Fr n0 L) (hM []) C.2.2.1 w4 w3 hf hlo) qa qc (g := mkF m pc ls st) rfl (by rw [C.2.2.2.2.1]; exact hsz) (Steps.refl _) (argsL := argsL) (rest := rest) (lenOf hpd hlen) hst (by show 2 * 0 + _ ≤ _; omega) (C.d hd) (fun _ _ => ⟨rfl, e0, bc, bs⟩)
  dsimp only [Pt.U, Pt.locs, Pt.cells, Pt.slots] at X' e1 e2 e3 kk hQ
  subst e1 e2 e3
  exact ⟨T', _, ⟨X', Fr.app N0 hL, hQ, bc, bs⟩, fun t q => kk.trans q⟩
theorem Exa.pl {h : Heap} {a : Addr} {C : String} (F : Exa Z h a C) : ∃ c : Cell, h[a]? = some c ∧ c.vm.isStatics = false := by obtain ⟨c, _, h1, -, -, h4, -⟩ := F; exact ⟨c, h1, h4⟩
theorem OA.pl {a : Addr} {ty : FieldType} {vs : List Value} (F : OA Z h a ty vs) : ∃ c : Cell, h[a]? = some c ∧ c.vm.isStatics = false := by obtain ⟨c, A, -⟩ := F; exact ⟨c, A.1, A.plain⟩
theorem Sta.kp {h h' : Heap} {C n d : String} {v : Value} {ws : List Addr} (F : Sta Z h C n d v) (K : Keep h h' ws) (q : ∀ a ∈ ws, ∃ c : Cell, h[a]? = some c ∧ c.vm.isStatics = false) : Sta Z h' C n d v := by
  obtain ⟨cf, i, k, f, st, cell, h1, h2, h3, h4, h5, h6, h7⟩ := F
  refine ⟨cf, i, k, f, st, cell, h1, h2, h3, h4, K.2.1 st cell h5 (fun hm => ?_), h6, h7⟩
  obtain ⟨c, e1, e2⟩ := q st hm
  cases h5.symm.trans e1
  rw [h6] at e2; cases e2
theorem OW.join {P : Value → Heap → Prop} {f : Value → JFrame} {cl' sl' : Nat} (b : (∀ v h', P v h' → OW p l e R s m args below meth c n0 Q K N h' cl' sl' (f v)) → OW p l e R s m args below meth c n0 Q K N h cl sl g) (k : ∀ v h', P v h' → OW p l e R s m args below meth c n0 Q K N h' cl' sl' (f v)) : OW p l e R s m args below meth c n0 Q K N h cl sl g := b k
theorem own_nr {v : Value} {t : FieldType} (q : v.isRef = true) (ht : t.isReference = true) : narrow t v = v ∧ fits t v = true := by
  rcases ref_cases q with rfl | ⟨_, rfl⟩ <;> cases t <;> first | (cases ht; done) | exact ⟨rfl, rfl⟩
/-! what a branch over two longs asks -/
theorem tltL {x y : Int64} (q : x < y) : ifCond.holds .lt (lcmpW x y) = true ∧ ifCond.holds .ge (lcmpW x y) = false ∧ ifCond.holds .gt (lcmpW y x) = true ∧ ifCond.holds .le (lcmpW y x) = false := by
  have a := (lw_lt x y).mpr q
  have b := (lw_gt y x).mpr q
  rw [if0, if0, if0, if0]; exact ⟨(tlt a).1, (tlt a).2.1, (tlt b).2.2.1, (tlt b).2.2.2⟩
theorem fltL {x y : Int64} (q : ¬ x < y) : ifCond.holds .lt (lcmpW x y) = false ∧ ifCond.holds .ge (lcmpW x y) = true ∧ ifCond.holds .gt (lcmpW y x) = false ∧ ifCond.holds .le (lcmpW y x) = true := by
  have a := fun z => q ((lw_lt x y).mp z)
  have b := fun z => q ((lw_gt y x).mp z)
  rw [if0, if0, if0, if0]; exact ⟨(flt a).1, (flt a).2.1, (flt b).2.2.1, (flt b).2.2.2⟩
theorem teqL {x y : Int64} (q : x = y) : ifCond.holds .eq (lcmpW x y) = true ∧ ifCond.holds .ne (lcmpW x y) = false := by
  have a := (lw_eq x y).mpr q
  rw [if0, if0]; exact teq a
theorem feqL {x y : Int64} (q : ¬ x = y) : ifCond.holds .eq (lcmpW x y) = false ∧ ifCond.holds .ne (lcmpW x y) = true := by
  have a := fun z => q ((lw_eq x y).mp z)
  rw [if0, if0]; exact feq a
theorem tlt0 {x y : Int32} (q : x < y) : if_icmp.holds .lt x y = true ∧ if_icmp.holds .ge x y = false ∧ if_icmp.holds .gt y x = true ∧ if_icmp.holds .le y x = false := tlt q
end Own
end Jvm.RoadKit
namespace Jvm.Pilot.@@N@@
open Jvm Jvm.ClassFile Sem Op Lib Jvm.Free Jvm.Stand Jvm.LawKit Jvm.RoadKit Bundle Jvm.Pilot.@@N@@.Jvm.D
abbrev HW (a0 : Array Value) (Z : State) : Prop := ∀ d ∈ tables_1, d.before a0 Z = true
theorem w0 {a0 : Array Value} {Z : State} (hw : HW a0 Z) : (Jvm.Cond.fieldLink "com/example/bitgrove/bitgrove/SetOperationKeepsPinLaw" (7 : Nat) "com/example/bitgrove/bitgrove/SetOperation" "AND" "Lcom/example/bitgrove/bitgrove/SetOperation;").before a0 Z = true := hw _ (List.mem_of_getElem? (i := 0) rfl)
theorem w1 {a0 : Array Value} {Z : State} (hw : HW a0 Z) : (Jvm.Cond.initialized "com/example/bitgrove/bitgrove/SetOperation").before a0 Z = true := hw _ (List.mem_of_getElem? (i := 1) rfl)
theorem w2 {a0 : Array Value} {Z : State} (hw : HW a0 Z) : (Jvm.Cond.laysStatic "com/example/bitgrove/bitgrove/SetOperation" "AND" "Lcom/example/bitgrove/bitgrove/SetOperation;").before a0 Z = true := hw _ (List.mem_of_getElem? (i := 2) rfl)
theorem w3 {a0 : Array Value} {Z : State} (hw : HW a0 Z) : (Jvm.Cond.methodLink "com/example/bitgrove/bitgrove/SetOperationKeepsPinLaw" (22 : Nat) ({ cls := "com/example/bitgrove/bitgrove/SetOperation", name := "keeps", desc := "(ZZ)Z" } : Jvm.MethodName)).before a0 Z = true := hw _ (List.mem_of_getElem? (i := 3) rfl)
theorem w4 {a0 : Array Value} {Z : State} (hw : HW a0 Z) : (Jvm.Cond.declares ({ cls := "com/example/bitgrove/bitgrove/SetOperation", name := "keeps", desc := "(ZZ)Z" } : Jvm.MethodName)).before a0 Z = true := hw _ (List.mem_of_getElem? (i := 4) rfl)
theorem w5 {a0 : Array Value} {Z : State} (hw : HW a0 Z) : (Jvm.Cond.instanceMethod ({ cls := "com/example/bitgrove/bitgrove/SetOperation", name := "keeps", desc := "(ZZ)Z" } : Jvm.MethodName)).before a0 Z = true := hw _ (List.mem_of_getElem? (i := 5) rfl)
theorem w6 {a0 : Array Value} {Z : State} (hw : HW a0 Z) : (Jvm.Cond.selects "com/example/bitgrove/bitgrove/SetOperation" ({ cls := "com/example/bitgrove/bitgrove/SetOperation", name := "keeps", desc := "(ZZ)Z" } : Jvm.MethodName) ({ cls := "com/example/bitgrove/bitgrove/SetOperation", name := "keeps", desc := "(ZZ)Z" } : Jvm.MethodName)).before a0 Z = true := hw _ (List.mem_of_getElem? (i := 6) rfl)
theorem w7 {a0 : Array Value} {Z : State} (hw : HW a0 Z) : (Jvm.Cond.code ({ cls := "com/example/bitgrove/bitgrove/SetOperation", name := "keeps", desc := "(ZZ)Z" } : Jvm.MethodName) prog_90_method_4_code (5 : Nat) (Option.some Jvm.ClassFile.FieldType.boolean)).before a0 Z = true := hw _ (List.mem_of_getElem? (i := 7) rfl)
theorem w8 {a0 : Array Value} {Z : State} (hw : HW a0 Z) : (Jvm.Cond.fieldLink "com/example/bitgrove/bitgrove/SetOperation" (37 : Nat) "com/example/bitgrove/bitgrove/SetOperation" "both" "J").before a0 Z = true := hw _ (List.mem_of_getElem? (i := 8) rfl)
theorem w10 {a0 : Array Value} {Z : State} (hw : HW a0 Z) : (Jvm.Cond.fieldLink "com/example/bitgrove/bitgrove/SetOperationKeepsPinLaw" (16 : Nat) "com/example/bitgrove/bitgrove/SetOperation" "XOR" "Lcom/example/bitgrove/bitgrove/SetOperation;").before a0 Z = true := hw _ (List.mem_of_getElem? (i := 10) rfl)
theorem w11 {a0 : Array Value} {Z : State} (hw : HW a0 Z) : (Jvm.Cond.laysStatic "com/example/bitgrove/bitgrove/SetOperation" "XOR" "Lcom/example/bitgrove/bitgrove/SetOperation;").before a0 Z = true := hw _ (List.mem_of_getElem? (i := 11) rfl)
theorem w12 {a0 : Array Value} {Z : State} (hw : HW a0 Z) : (Jvm.Cond.fieldLink "com/example/bitgrove/bitgrove/SetOperation" (41 : Nat) "com/example/bitgrove/bitgrove/SetOperation" "leftOnly" "J").before a0 Z = true := hw _ (List.mem_of_getElem? (i := 12) rfl)
theorem w14 {a0 : Array Value} {Z : State} (hw : HW a0 Z) : (Jvm.Cond.fieldLink "com/example/bitgrove/bitgrove/SetOperationKeepsPinLaw" (13 : Nat) "com/example/bitgrove/bitgrove/SetOperation" "OR" "Lcom/example/bitgrove/bitgrove/SetOperation;").before a0 Z = true := hw _ (List.mem_of_getElem? (i := 14) rfl)
theorem w15 {a0 : Array Value} {Z : State} (hw : HW a0 Z) : (Jvm.Cond.laysStatic "com/example/bitgrove/bitgrove/SetOperation" "OR" "Lcom/example/bitgrove/bitgrove/SetOperation;").before a0 Z = true := hw _ (List.mem_of_getElem? (i := 15) rfl)
theorem w16 {a0 : Array Value} {Z : State} (hw : HW a0 Z) : (Jvm.Cond.fieldLink "com/example/bitgrove/bitgrove/SetOperationKeepsPinLaw" (19 : Nat) "com/example/bitgrove/bitgrove/SetOperation" "AND_NOT" "Lcom/example/bitgrove/bitgrove/SetOperation;").before a0 Z = true := hw _ (List.mem_of_getElem? (i := 16) rfl)
theorem w17 {a0 : Array Value} {Z : State} (hw : HW a0 Z) : (Jvm.Cond.laysStatic "com/example/bitgrove/bitgrove/SetOperation" "AND_NOT" "Lcom/example/bitgrove/bitgrove/SetOperation;").before a0 Z = true := hw _ (List.mem_of_getElem? (i := 17) rfl)
theorem w18 {a0 : Array Value} {Z : State} (hw : HW a0 Z) : (Jvm.Cond.fieldLink "com/example/bitgrove/bitgrove/SetOperation" (44 : Nat) "com/example/bitgrove/bitgrove/SetOperation" "rightOnly" "J").before a0 Z = true := hw _ (List.mem_of_getElem? (i := 18) rfl)
theorem pd_0 : parseMethodDescriptor "(ZZ)Z" = some ⟨[.boolean, .boolean], some .boolean⟩ := by decide +kernel
theorem pn_0 : plainName "com/example/bitgrove/bitgrove/SetOperation" = true := by first | (simp [plainName, overriddenIn]; done) | decide +kernel
theorem pn_1 : plainName "com/example/bitgrove/bitgrove/SetOperationKeepsPinLaw" = true := by first | (simp [plainName, overriddenIn]; done) | decide +kernel
theorem d1_0 : decode prog_90_method_4_code 0 = .ok (.iload_n 1, 1) := by decide +kernel
theorem d1_1 : decode prog_90_method_4_code 1 = .ok (.ifCond .eq 21, 3) := by decide +kernel
theorem d1_4 : decode prog_90_method_4_code 4 = .ok (.iload_n 2, 1) := by decide +kernel
theorem d1_5 : decode prog_90_method_4_code 5 = .ok (.ifCond .eq 10, 3) := by decide +kernel
theorem d1_8 : decode prog_90_method_4_code 8 = .ok (.aload_n 0, 1) := by decide +kernel
theorem d1_9 : decode prog_90_method_4_code 9 = .ok (.getfield 37, 3) := by decide +kernel
theorem d1_12 : decode prog_90_method_4_code 12 = .ok (.goto 22, 3) := by decide +kernel
theorem d1_15 : decode prog_90_method_4_code 15 = .ok (.aload_n 0, 1) := by decide +kernel
theorem d1_16 : decode prog_90_method_4_code 16 = .ok (.getfield 41, 3) := by decide +kernel
theorem d1_19 : decode prog_90_method_4_code 19 = .ok (.goto 15, 3) := by decide +kernel
theorem d1_22 : decode prog_90_method_4_code 22 = .ok (.iload_n 2, 1) := by decide +kernel
theorem d1_23 : decode prog_90_method_4_code 23 = .ok (.ifCond .eq 10, 3) := by decide +kernel
theorem d1_26 : decode prog_90_method_4_code 26 = .ok (.aload_n 0, 1) := by decide +kernel
theorem d1_27 : decode prog_90_method_4_code 27 = .ok (.getfield 44, 3) := by decide +kernel
theorem d1_30 : decode prog_90_method_4_code 30 = .ok (.goto 4, 3) := by decide +kernel
theorem d1_33 : decode prog_90_method_4_code 33 = .ok (.lconst 0, 1) := by decide +kernel
theorem d1_34 : decode prog_90_method_4_code 34 = .ok (.lstore_n 3, 1) := by decide +kernel
theorem d1_35 : decode prog_90_method_4_code 35 = .ok (.lload_n 3, 1) := by decide +kernel
theorem d1_36 : decode prog_90_method_4_code 36 = .ok (.lconst 0, 1) := by decide +kernel
theorem d1_37 : decode prog_90_method_4_code 37 = .ok (.lcmp, 1) := by decide +kernel
theorem d1_38 : decode prog_90_method_4_code 38 = .ok (.ifCond .eq 7, 3) := by decide +kernel
theorem d1_41 : decode prog_90_method_4_code 41 = .ok (.iconst 1, 1) := by decide +kernel
theorem d1_42 : decode prog_90_method_4_code 42 = .ok (.goto 4, 3) := by decide +kernel
theorem d1_45 : decode prog_90_method_4_code 45 = .ok (.iconst 0, 1) := by decide +kernel
theorem d1_46 : decode prog_90_method_4_code 46 = .ok (.ireturn, 1) := by decide +kernel
def F1 (x1 : Int32) (x2 : Int32) (vb : Int64) (vl : Int64) (vr : Int64) : Int32 := let y1 : Int64 := (if x1 = (0 : Int32) then (if x2 = (0 : Int32) then (0 : Int64) else vr) else (if x2 = (0 : Int32) then vl else vb)); (if y1 = (0 : Int64) then (0 : Int32) else (1 : Int32))
set_option maxRecDepth 65536 in
set_option maxHeartbeats 40000000 in
theorem b1 {l : Launch} {Z : State} {a0 : Array Value} (hw : HW a0 Z) (x0 : Addr) (x1 : Int32) (x2 : Int32) {n0 : Nat} {h : Heap} {vb vl vr : Int64} (Gboth : Fld Z h x0 "com/example/bitgrove/bitgrove/SetOperation" "both" "J" (.long vb)) (GleftOnly : Fld Z h x0 "com/example/bitgrove/bitgrove/SetOperation" "leftOnly" "J" (.long vl)) (GrightOnly : Fld Z h x0 "com/example/bitgrove/bitgrove/SetOperation" "rightOnly" "J" (.long vr)) : OM l Z (⟨"com/example/bitgrove/bitgrove/SetOperation", "keeps", "(ZZ)Z"⟩ : MethodName) prog_90_method_4_code 5 (some .boolean) ⟨0, 0, 0, 0⟩ n0 h #[(.ref x0), (.int x1), (.int x2)] (fun v h' => v = some (.int (nar .boolean (F1 x1 x2 vb vl vr))) ∧ h' = h) 0 0 := by
  refine OM.of_body (ls := #[.val (.ref x0), .val (.int x1), .val (.int x2), .unset, .unset]) (plainFor_of_name pn_0) (fun m => by first | rfl | simp [entryFrame, mkF, argsToLocals, Value.category]) ?_
  intro p e s m below meth c C
  refine OG.ow (OG.iloadN C d1_0 rfl (pc' := 1) rfl) ?_
  refine OG.ow (OG.ite (α := Int64) (P := x1 = (0 : Int32)) (f := fun v => (mkF m 34 #[.val (.ref x0), .val (.int x1), .val (.int x2), .unset, .unset] [(.long v)])) (x := (if x2 = (0 : Int32) then (0 : Int64) else vr)) (y := (if x2 = (0 : Int32) then vl else vb)) (fun hc => ?_) (fun hc => ?_)) ?_
  · refine OG.trans (OG.ifYes C d1_1 ((if0 _ _).trans (teq hc).1) (by decide) (pc' := 22) (by decide)) ?_
    refine OG.trans (OG.iloadN C d1_22 rfl (pc' := 23) rfl) ?_
    refine OG.trans (OG.ite (α := Int64) (P := x2 = (0 : Int32)) (f := fun v => (mkF m 34 #[.val (.ref x0), .val (.int x1), .val (.int x2), .unset, .unset] [(.long v)])) (x := (0 : Int64)) (y := vr) (fun hc => ?_) (fun hc => ?_)) ?_
    · refine OG.trans (OG.ifYes C d1_23 ((if0 _ _).trans (teq hc).1) (by decide) (pc' := 33) (by decide)) ?_
      refine OG.trans (OG.lconst C d1_33 (z := (0 : Int64)) rfl (pc' := 34) rfl) ?_
      exact OG.refl
    · refine OG.trans (OG.ifNo C d1_23 ((if0 _ _).trans (feq hc).1) (pc' := 26) rfl) ?_
      refine OG.trans (OG.aloadN C d1_26 rfl rfl (pc' := 27) rfl) ?_
      refine OG.trans (OG.getF C (host := "") (Or.inl (w18 hw)) Via.refl GrightOnly d1_27 (pc' := 30) rfl) ?_
      refine OG.trans (OG.goto C d1_30 (by decide) (pc' := 34) (by decide)) ?_
      exact OG.refl
    exact OG.refl
  · refine OG.trans (OG.ifNo C d1_1 ((if0 _ _).trans (feq hc).1) (pc' := 4) rfl) ?_
    refine OG.trans (OG.iloadN C d1_4 rfl (pc' := 5) rfl) ?_
    refine OG.trans (OG.ite (α := Int64) (P := x2 = (0 : Int32)) (f := fun v => (mkF m 34 #[.val (.ref x0), .val (.int x1), .val (.int x2), .unset, .unset] [(.long v)])) (x := vl) (y := vb) (fun hc => ?_) (fun hc => ?_)) ?_
    · refine OG.trans (OG.ifYes C d1_5 ((if0 _ _).trans (teq hc).1) (by decide) (pc' := 15) (by decide)) ?_
      refine OG.trans (OG.aloadN C d1_15 rfl rfl (pc' := 16) rfl) ?_
      refine OG.trans (OG.getF C (host := "") (Or.inl (w12 hw)) Via.refl GleftOnly d1_16 (pc' := 19) rfl) ?_
      refine OG.trans (OG.goto C d1_19 (by decide) (pc' := 34) (by decide)) ?_
      exact OG.refl
    · refine OG.trans (OG.ifNo C d1_5 ((if0 _ _).trans (feq hc).1) (pc' := 8) rfl) ?_
      refine OG.trans (OG.aloadN C d1_8 rfl rfl (pc' := 9) rfl) ?_
      refine OG.trans (OG.getF C (host := "") (Or.inl (w8 hw)) Via.refl Gboth d1_9 (pc' := 12) rfl) ?_
      refine OG.trans (OG.goto C d1_12 (by decide) (pc' := 34) (by decide)) ?_
      exact OG.refl
    exact OG.refl
  generalize hy1 : (if x1 = (0 : Int32) then (if x2 = (0 : Int32) then (0 : Int64) else vr) else (if x2 = (0 : Int32) then vl else vb)) = y1
  refine OG.ow (OG.lstoreN C d1_34 (ls' := #[.val (.ref x0), .val (.int x1), .val (.int x2), .val (.long y1), .second]) rfl (pc' := 35) rfl) ?_
  refine OG.ow (OG.lloadN C d1_35 rfl (pc' := 36) rfl) ?_
  refine OG.ow (OG.lconst C d1_36 (z := (0 : Int64)) rfl (pc' := 37) rfl) ?_
  refine OG.ow (OG.lcmp C d1_37 (pc' := 38) rfl) ?_
  refine OG.ow (OG.ite (α := Int32) (P := y1 = (0 : Int64)) (f := fun v => (mkF m 46 #[.val (.ref x0), .val (.int x1), .val (.int x2), .val (.long y1), .second] [(.int v)])) (x := (0 : Int32)) (y := (1 : Int32)) (fun hc => ?_) (fun hc => ?_)) ?_
  · refine OG.trans (OG.ifYes C d1_38 (teqL hc).1 (by decide) (pc' := 45) (by decide)) ?_
    refine OG.trans (OG.iconst C d1_45 (z := (0 : Int32)) rfl (pc' := 46) rfl) ?_
    exact OG.refl
  · refine OG.trans (OG.ifNo C d1_38 (feqL hc).1 (pc' := 41) rfl) ?_
    refine OG.trans (OG.iconst C d1_41 (z := (1 : Int32)) rfl (pc' := 42) rfl) ?_
    refine OG.trans (OG.goto C d1_42 (by decide) (pc' := 46) (by decide)) ?_
    exact OG.refl
  refine OW.retN (t := .boolean) C (by simp) d1_46 (by decide) (by decide) ?_
  refine ⟨congrArg (fun z => some (Value.int (nar .boolean z))) ?_, rfl⟩
  subst hy1
  show _ = F1 x1 x2 vb vl vr
  rfl
set_option maxRecDepth 65536 in
set_option maxHeartbeats 40000000 in
theorem b0 {l : Launch} {Z : State} {a0 : Array Value} (hw : HW a0 Z) (x0 : Int32) (x1 : Int32) {n0 : Nat} {h : Heap} {a_AND a_OR a_XOR a_AND_NOT : Addr} (S_AND : Sta Z h "com/example/bitgrove/bitgrove/SetOperation" "AND" "Lcom/example/bitgrove/bitgrove/SetOperation;" (.ref a_AND)) (E_AND : Exa Z h a_AND "com/example/bitgrove/bitgrove/SetOperation") (G_AND_both : Fld Z h a_AND "com/example/bitgrove/bitgrove/SetOperation" "both" "J" (.long (-1 : Int64))) (G_AND_leftOnly : Fld Z h a_AND "com/example/bitgrove/bitgrove/SetOperation" "leftOnly" "J" (.long (0 : Int64))) (G_AND_rightOnly : Fld Z h a_AND "com/example/bitgrove/bitgrove/SetOperation" "rightOnly" "J" (.long (0 : Int64))) (S_OR : Sta Z h "com/example/bitgrove/bitgrove/SetOperation" "OR" "Lcom/example/bitgrove/bitgrove/SetOperation;" (.ref a_OR)) (E_OR : Exa Z h a_OR "com/example/bitgrove/bitgrove/SetOperation") (G_OR_both : Fld Z h a_OR "com/example/bitgrove/bitgrove/SetOperation" "both" "J" (.long (-1 : Int64))) (G_OR_leftOnly : Fld Z h a_OR "com/example/bitgrove/bitgrove/SetOperation" "leftOnly" "J" (.long (-1 : Int64))) (G_OR_rightOnly : Fld Z h a_OR "com/example/bitgrove/bitgrove/SetOperation" "rightOnly" "J" (.long (-1 : Int64))) (S_XOR : Sta Z h "com/example/bitgrove/bitgrove/SetOperation" "XOR" "Lcom/example/bitgrove/bitgrove/SetOperation;" (.ref a_XOR)) (E_XOR : Exa Z h a_XOR "com/example/bitgrove/bitgrove/SetOperation") (G_XOR_both : Fld Z h a_XOR "com/example/bitgrove/bitgrove/SetOperation" "both" "J" (.long (0 : Int64))) (G_XOR_leftOnly : Fld Z h a_XOR "com/example/bitgrove/bitgrove/SetOperation" "leftOnly" "J" (.long (-1 : Int64))) (G_XOR_rightOnly : Fld Z h a_XOR "com/example/bitgrove/bitgrove/SetOperation" "rightOnly" "J" (.long (-1 : Int64))) (S_AND_NOT : Sta Z h "com/example/bitgrove/bitgrove/SetOperation" "AND_NOT" "Lcom/example/bitgrove/bitgrove/SetOperation;" (.ref a_AND_NOT)) (E_AND_NOT : Exa Z h a_AND_NOT "com/example/bitgrove/bitgrove/SetOperation") (G_AND_NOT_both : Fld Z h a_AND_NOT "com/example/bitgrove/bitgrove/SetOperation" "both" "J" (.long (0 : Int64))) (G_AND_NOT_leftOnly : Fld Z h a_AND_NOT "com/example/bitgrove/bitgrove/SetOperation" "leftOnly" "J" (.long (-1 : Int64))) (G_AND_NOT_rightOnly : Fld Z h a_AND_NOT "com/example/bitgrove/bitgrove/SetOperation" "rightOnly" "J" (.long (0 : Int64)))  : OM l Z x code maxLocals ret room_1 n0 h #[(.int x0), (.int x1)] (fun v h' => v = some (.int 1)) 0 0 := by
  refine OM.of_body (ls := #[.val (.int x0), .val (.int x1), .unset, .unset, .unset, .unset, .unset]) (plainFor_of_name pn_1) (fun m => by first | rfl | simp [entryFrame, mkF, argsToLocals, Value.category, maxLocals]) ?_
  intro p e s m below meth c C
  refine OG.ow (OG.iloadN C at_0 rfl (pc' := 1) rfl) ?_
  refine OG.ow (OG.iconst C at_1 (z := (3 : Int32)) rfl (pc' := 2) rfl) ?_
  refine OG.ow (OG.iand C at_2 (pc' := 3) rfl) ?_
  refine OG.ow (OG.istoreN C at_3 (ls' := #[.val (.int x0), .val (.int x1), .val (.int (x0 &&& (3 : Int32))), .unset, .unset, .unset, .unset]) rfl (pc' := 4) rfl) ?_
  refine OG.ow (OG.iloadN C at_4 rfl (pc' := 5) rfl) ?_
  refine OG.ow (OG.iconst C at_5 (z := (1 : Int32)) rfl (pc' := 6) rfl) ?_
  refine OG.ow (OG.iand C at_6 (pc' := 7) rfl) ?_
  refine OG.ow (OG.ite (α := Int32) (P := (x1 &&& (1 : Int32)) = (0 : Int32)) (f := fun v => (mkF m 15 #[.val (.int x0), .val (.int x1), .val (.int (x0 &&& (3 : Int32))), .unset, .unset, .unset, .unset] [(.int v)])) (x := (0 : Int32)) (y := (1 : Int32)) (fun hc => ?_) (fun hc => ?_)) ?_
  · refine OG.trans (OG.ifYes C at_7 ((if0 _ _).trans (teq hc).1) (by decide) (pc' := 14) (by decide)) ?_
    refine OG.trans (OG.iconst C at_14 (z := (0 : Int32)) rfl (pc' := 15) rfl) ?_
    exact OG.refl
  · refine OG.trans (OG.ifNo C at_7 ((if0 _ _).trans (feq hc).1) (pc' := 10) rfl) ?_
    refine OG.trans (OG.iconst C at_10 (z := (1 : Int32)) rfl (pc' := 11) rfl) ?_
    refine OG.trans (OG.goto C at_11 (by decide) (pc' := 15) (by decide)) ?_
    exact OG.refl
  refine OG.ow (OG.istoreN C at_15 (ls' := #[.val (.int x0), .val (.int x1), .val (.int (x0 &&& (3 : Int32))), .val (.int (if (x1 &&& (1 : Int32)) = (0 : Int32) then (0 : Int32) else (1 : Int32))), .unset, .unset, .unset]) rfl (pc' := 16) rfl) ?_
  refine OG.ow (OG.iloadN C at_16 rfl (pc' := 17) rfl) ?_
  refine OG.ow (OG.iconst C at_17 (z := (2 : Int32)) rfl (pc' := 18) rfl) ?_
  refine OG.ow (OG.iand C at_18 (pc' := 19) rfl) ?_
  refine OG.ow (OG.ite (α := Int32) (P := (x1 &&& (2 : Int32)) = (0 : Int32)) (f := fun v => (mkF m 27 #[.val (.int x0), .val (.int x1), .val (.int (x0 &&& (3 : Int32))), .val (.int (if (x1 &&& (1 : Int32)) = (0 : Int32) then (0 : Int32) else (1 : Int32))), .unset, .unset, .unset] [(.int v)])) (x := (0 : Int32)) (y := (1 : Int32)) (fun hc => ?_) (fun hc => ?_)) ?_
  · refine OG.trans (OG.ifYes C at_19 ((if0 _ _).trans (teq hc).1) (by decide) (pc' := 26) (by decide)) ?_
    refine OG.trans (OG.iconst C at_26 (z := (0 : Int32)) rfl (pc' := 27) rfl) ?_
    exact OG.refl
  · refine OG.trans (OG.ifNo C at_19 ((if0 _ _).trans (feq hc).1) (pc' := 22) rfl) ?_
    refine OG.trans (OG.iconst C at_22 (z := (1 : Int32)) rfl (pc' := 23) rfl) ?_
    refine OG.trans (OG.goto C at_23 (by decide) (pc' := 27) (by decide)) ?_
    exact OG.refl
  refine OG.ow (OG.istore C at_27 (ls' := #[.val (.int x0), .val (.int x1), .val (.int (x0 &&& (3 : Int32))), .val (.int (if (x1 &&& (1 : Int32)) = (0 : Int32) then (0 : Int32) else (1 : Int32))), .val (.int (if (x1 &&& (2 : Int32)) = (0 : Int32) then (0 : Int32) else (1 : Int32))), .unset, .unset]) rfl (pc' := 29) rfl) ?_
  refine OG.ow (OG.iloadN C at_29 rfl (pc' := 30) rfl) ?_
  by_cases hc1 : (x0 &&& (3 : Int32)) = (0 : Int32)
  · refine OG.ow (OG.ifNo C at_30 ((if0 _ _).trans (teq hc1).2) (pc' := 33) rfl) ?_
    refine OG.ow (OG.getS C (host := "") (Or.inl (w0 hw)) Via.refl S_AND at_33 (pc' := 36) rfl) ?_
    refine OG.ow (OG.astore C at_36 rfl (ls' := #[.val (.int x0), .val (.int x1), .val (.int (x0 &&& (3 : Int32))), .val (.int (if (x1 &&& (1 : Int32)) = (0 : Int32) then (0 : Int32) else (1 : Int32))), .val (.int (if (x1 &&& (2 : Int32)) = (0 : Int32) then (0 : Int32) else (1 : Int32))), .val (.ref a_AND), .unset]) rfl (pc' := 38) rfl) ?_
    refine OG.ow (OG.iloadN C at_38 rfl (pc' := 39) rfl) ?_
    refine OG.ow (OG.ite (α := Int32) (P := (x1 &&& (1 : Int32)) = (0 : Int32)) (f := fun v => (mkF m 52 #[.val (.int x0), .val (.int x1), .val (.int (x0 &&& (3 : Int32))), .val (.int (if (x1 &&& (1 : Int32)) = (0 : Int32) then (0 : Int32) else (1 : Int32))), .val (.int (if (x1 &&& (2 : Int32)) = (0 : Int32) then (0 : Int32) else (1 : Int32))), .val (.ref a_AND), .unset] [(.int v)])) (x := (0 : Int32)) (y := (if (x1 &&& (2 : Int32)) = (0 : Int32) then (0 : Int32) else (1 : Int32))) (fun hc => ?_) (fun hc => ?_)) ?_
    · refine OG.trans (OG.ifYes C at_39 (by rw [if_pos hc]; rfl) (by decide) (pc' := 51) (by decide)) ?_
      refine OG.trans (OG.iconst C at_51 (z := (0 : Int32)) rfl (pc' := 52) rfl) ?_
      exact OG.refl
    · refine OG.trans (OG.ifNo C at_39 (by rw [if_neg hc]; rfl) (pc' := 42) rfl) ?_
      refine OG.trans (OG.iload C at_42 rfl (pc' := 44) rfl) ?_
      refine OG.trans (OG.ite (α := Int32) (P := (x1 &&& (2 : Int32)) = (0 : Int32)) (f := fun v => (mkF m 52 #[.val (.int x0), .val (.int x1), .val (.int (x0 &&& (3 : Int32))), .val (.int (if (x1 &&& (1 : Int32)) = (0 : Int32) then (0 : Int32) else (1 : Int32))), .val (.int (if (x1 &&& (2 : Int32)) = (0 : Int32) then (0 : Int32) else (1 : Int32))), .val (.ref a_AND), .unset] [(.int v)])) (x := (0 : Int32)) (y := (1 : Int32)) (fun hc => ?_) (fun hc => ?_)) ?_
      · refine OG.trans (OG.ifYes C at_44 (by rw [if_pos hc]; rfl) (by decide) (pc' := 51) (by decide)) ?_
        refine OG.trans (OG.iconst C at_51 (z := (0 : Int32)) rfl (pc' := 52) rfl) ?_
        exact OG.refl
      · refine OG.trans (OG.ifNo C at_44 (by rw [if_neg hc]; rfl) (pc' := 47) rfl) ?_
        refine OG.trans (OG.iconst C at_47 (z := (1 : Int32)) rfl (pc' := 48) rfl) ?_
        refine OG.trans (OG.goto C at_48 (by decide) (pc' := 52) (by decide)) ?_
        exact OG.refl
      exact OG.refl
    refine OG.ow (OG.istore C at_52 (ls' := #[.val (.int x0), .val (.int x1), .val (.int (x0 &&& (3 : Int32))), .val (.int (if (x1 &&& (1 : Int32)) = (0 : Int32) then (0 : Int32) else (1 : Int32))), .val (.int (if (x1 &&& (2 : Int32)) = (0 : Int32) then (0 : Int32) else (1 : Int32))), .val (.ref a_AND), .val (.int (if (x1 &&& (1 : Int32)) = (0 : Int32) then (0 : Int32) else (if (x1 &&& (2 : Int32)) = (0 : Int32) then (0 : Int32) else (1 : Int32))))]) rfl (pc' := 54) rfl) ?_
    refine OG.ow (OG.goto C at_54 (by decide) (pc' := 133) (by decide)) ?_
    refine OG.ow (OG.aload C at_133 rfl rfl (pc' := 135) rfl) ?_
    refine OG.ow (OG.iloadN C at_135 rfl (pc' := 136) rfl) ?_
    refine OG.ow (OG.iload C at_136 rfl (pc' := 138) rfl) ?_
    refine OG.ow (OG.callV C (w3 hw) (w4 hw) (w6 hw) (w5 hw) (w1 hw) (w7 hw) (by decide) E_AND (b1 hw a_AND (if (x1 &&& (1 : Int32)) = (0 : Int32) then (0 : Int32) else (1 : Int32)) (if (x1 &&& (2 : Int32)) = (0 : Int32) then (0 : Int32) else (1 : Int32)) G_AND_both G_AND_leftOnly G_AND_rightOnly) at_138 pd_0 rfl (argsL := [(.int (if (x1 &&& (1 : Int32)) = (0 : Int32) then (0 : Int32) else (1 : Int32))), (.int (if (x1 &&& (2 : Int32)) = (0 : Int32) then (0 : Int32) else (1 : Int32)))]) (rest := []) rfl rfl (W := 0) rfl (by decide) (by decide) (pc' := 141) rfl) ?_
    refine OG.ow (OG.iload C at_141 rfl (pc' := 143) rfl) ?_
    refine OG.ow (OG.icmpNo C at_143 (teq (by simp only [F1]; by_cases l1 : (x1 &&& (1 : Int32)) = (0 : Int32) <;> by_cases l2 : (x1 &&& (2 : Int32)) = (0 : Int32) <;> simp only [l1, l2, if_true, if_false] <;> decide)).2 (pc' := 146) rfl) ?_
    refine OG.ow (OG.iconst C at_146 (z := (1 : Int32)) rfl (pc' := 147) rfl) ?_
    refine OG.ow (OG.goto C at_147 (by decide) (pc' := 151) (by decide)) ?_
    refine OW.retN (t := .boolean) C (by simp) at_151 (by decide) (by decide) ?_
    rfl
  · refine OG.ow (OG.ifYes C at_30 ((if0 _ _).trans (feq hc1).2) (by decide) (pc' := 57) (by decide)) ?_
    refine OG.ow (OG.iloadN C at_57 rfl (pc' := 58) rfl) ?_
    refine OG.ow (OG.iconst C at_58 (z := (1 : Int32)) rfl (pc' := 59) rfl) ?_
    by_cases hc2 : (x0 &&& (3 : Int32)) = (1 : Int32)
    · refine OG.ow (OG.icmpNo C at_59 (teq hc2).2 (pc' := 62) rfl) ?_
      refine OG.ow (OG.getS C (host := "") (Or.inl (w14 hw)) Via.refl S_OR at_62 (pc' := 65) rfl) ?_
      refine OG.ow (OG.astore C at_65 rfl (ls' := #[.val (.int x0), .val (.int x1), .val (.int (x0 &&& (3 : Int32))), .val (.int (if (x1 &&& (1 : Int32)) = (0 : Int32) then (0 : Int32) else (1 : Int32))), .val (.int (if (x1 &&& (2 : Int32)) = (0 : Int32) then (0 : Int32) else (1 : Int32))), .val (.ref a_OR), .unset]) rfl (pc' := 67) rfl) ?_
      refine OG.ow (OG.iloadN C at_67 rfl (pc' := 68) rfl) ?_
      refine OG.ow (OG.ite (α := Int32) (P := (x1 &&& (1 : Int32)) = (0 : Int32)) (f := fun v => (mkF m 81 #[.val (.int x0), .val (.int x1), .val (.int (x0 &&& (3 : Int32))), .val (.int (if (x1 &&& (1 : Int32)) = (0 : Int32) then (0 : Int32) else (1 : Int32))), .val (.int (if (x1 &&& (2 : Int32)) = (0 : Int32) then (0 : Int32) else (1 : Int32))), .val (.ref a_OR), .unset] [(.int v)])) (x := (if (x1 &&& (2 : Int32)) = (0 : Int32) then (0 : Int32) else (1 : Int32))) (y := (1 : Int32)) (fun hc => ?_) (fun hc => ?_)) ?_
      · refine OG.trans (OG.ifNo C at_68 (by rw [if_pos hc]; rfl) (pc' := 71) rfl) ?_
        refine OG.trans (OG.iload C at_71 rfl (pc' := 73) rfl) ?_
        refine OG.trans (OG.ite (α := Int32) (P := (x1 &&& (2 : Int32)) = (0 : Int32)) (f := fun v => (mkF m 81 #[.val (.int x0), .val (.int x1), .val (.int (x0 &&& (3 : Int32))), .val (.int (if (x1 &&& (1 : Int32)) = (0 : Int32) then (0 : Int32) else (1 : Int32))), .val (.int (if (x1 &&& (2 : Int32)) = (0 : Int32) then (0 : Int32) else (1 : Int32))), .val (.ref a_OR), .unset] [(.int v)])) (x := (0 : Int32)) (y := (1 : Int32)) (fun hc => ?_) (fun hc => ?_)) ?_
        · refine OG.trans (OG.ifYes C at_73 (by rw [if_pos hc]; rfl) (by decide) (pc' := 80) (by decide)) ?_
          refine OG.trans (OG.iconst C at_80 (z := (0 : Int32)) rfl (pc' := 81) rfl) ?_
          exact OG.refl
        · refine OG.trans (OG.ifNo C at_73 (by rw [if_neg hc]; rfl) (pc' := 76) rfl) ?_
          refine OG.trans (OG.iconst C at_76 (z := (1 : Int32)) rfl (pc' := 77) rfl) ?_
          refine OG.trans (OG.goto C at_77 (by decide) (pc' := 81) (by decide)) ?_
          exact OG.refl
        exact OG.refl
      · refine OG.trans (OG.ifYes C at_68 (by rw [if_neg hc]; rfl) (by decide) (pc' := 76) (by decide)) ?_
        refine OG.trans (OG.iconst C at_76 (z := (1 : Int32)) rfl (pc' := 77) rfl) ?_
        refine OG.trans (OG.goto C at_77 (by decide) (pc' := 81) (by decide)) ?_
        exact OG.refl
      refine OG.ow (OG.istore C at_81 (ls' := #[.val (.int x0), .val (.int x1), .val (.int (x0 &&& (3 : Int32))), .val (.int (if (x1 &&& (1 : Int32)) = (0 : Int32) then (0 : Int32) else (1 : Int32))), .val (.int (if (x1 &&& (2 : Int32)) = (0 : Int32) then (0 : Int32) else (1 : Int32))), .val (.ref a_OR), .val (.int (if (x1 &&& (1 : Int32)) = (0 : Int32) then (if (x1 &&& (2 : Int32)) = (0 : Int32) then (0 : Int32) else (1 : Int32)) else (1 : Int32)))]) rfl (pc' := 83) rfl) ?_
      refine OG.ow (OG.goto C at_83 (by decide) (pc' := 133) (by decide)) ?_
      refine OG.ow (OG.aload C at_133 rfl rfl (pc' := 135) rfl) ?_
      refine OG.ow (OG.iloadN C at_135 rfl (pc' := 136) rfl) ?_
      refine OG.ow (OG.iload C at_136 rfl (pc' := 138) rfl) ?_
      refine OG.ow (OG.callV C (w3 hw) (w4 hw) (w6 hw) (w5 hw) (w1 hw) (w7 hw) (by decide) E_OR (b1 hw a_OR (if (x1 &&& (1 : Int32)) = (0 : Int32) then (0 : Int32) else (1 : Int32)) (if (x1 &&& (2 : Int32)) = (0 : Int32) then (0 : Int32) else (1 : Int32)) G_OR_both G_OR_leftOnly G_OR_rightOnly) at_138 pd_0 rfl (argsL := [(.int (if (x1 &&& (1 : Int32)) = (0 : Int32) then (0 : Int32) else (1 : Int32))), (.int (if (x1 &&& (2 : Int32)) = (0 : Int32) then (0 : Int32) else (1 : Int32)))]) (rest := []) rfl rfl (W := 0) rfl (by decide) (by decide) (pc' := 141) rfl) ?_
      refine OG.ow (OG.iload C at_141 rfl (pc' := 143) rfl) ?_
      refine OG.ow (OG.icmpNo C at_143 (teq (by simp only [F1]; by_cases l1 : (x1 &&& (1 : Int32)) = (0 : Int32) <;> by_cases l2 : (x1 &&& (2 : Int32)) = (0 : Int32) <;> simp only [l1, l2, if_true, if_false] <;> decide)).2 (pc' := 146) rfl) ?_
      refine OG.ow (OG.iconst C at_146 (z := (1 : Int32)) rfl (pc' := 147) rfl) ?_
      refine OG.ow (OG.goto C at_147 (by decide) (pc' := 151) (by decide)) ?_
      refine OW.retN (t := .boolean) C (by simp) at_151 (by decide) (by decide) ?_
      rfl
    · refine OG.ow (OG.icmpYes C at_59 (feq hc2).2 (by decide) (pc' := 86) (by decide)) ?_
      refine OG.ow (OG.iloadN C at_86 rfl (pc' := 87) rfl) ?_
      refine OG.ow (OG.iconst C at_87 (z := (2 : Int32)) rfl (pc' := 88) rfl) ?_
      by_cases hc3 : (x0 &&& (3 : Int32)) = (2 : Int32)
      · refine OG.ow (OG.icmpNo C at_88 (teq hc3).2 (pc' := 91) rfl) ?_
        refine OG.ow (OG.getS C (host := "") (Or.inl (w10 hw)) Via.refl S_XOR at_91 (pc' := 94) rfl) ?_
        refine OG.ow (OG.astore C at_94 rfl (ls' := #[.val (.int x0), .val (.int x1), .val (.int (x0 &&& (3 : Int32))), .val (.int (if (x1 &&& (1 : Int32)) = (0 : Int32) then (0 : Int32) else (1 : Int32))), .val (.int (if (x1 &&& (2 : Int32)) = (0 : Int32) then (0 : Int32) else (1 : Int32))), .val (.ref a_XOR), .unset]) rfl (pc' := 96) rfl) ?_
        refine OG.ow (OG.iloadN C at_96 rfl (pc' := 97) rfl) ?_
        refine OG.ow (OG.iload C at_97 rfl (pc' := 99) rfl) ?_
        refine OG.ow (OG.ite (α := Int32) (P := (if (x1 &&& (1 : Int32)) = (0 : Int32) then (0 : Int32) else (1 : Int32)) = (if (x1 &&& (2 : Int32)) = (0 : Int32) then (0 : Int32) else (1 : Int32))) (f := fun v => (mkF m 107 #[.val (.int x0), .val (.int x1), .val (.int (x0 &&& (3 : Int32))), .val (.int (if (x1 &&& (1 : Int32)) = (0 : Int32) then (0 : Int32) else (1 : Int32))), .val (.int (if (x1 &&& (2 : Int32)) = (0 : Int32) then (0 : Int32) else (1 : Int32))), .val (.ref a_XOR), .unset] [(.int v)])) (x := (0 : Int32)) (y := (1 : Int32)) (fun hc => ?_) (fun hc => ?_)) ?_
        · refine OG.trans (OG.icmpYes C at_99 (teq hc).1 (by decide) (pc' := 106) (by decide)) ?_
          refine OG.trans (OG.iconst C at_106 (z := (0 : Int32)) rfl (pc' := 107) rfl) ?_
          exact OG.refl
        · refine OG.trans (OG.icmpNo C at_99 (feq hc).1 (pc' := 102) rfl) ?_
          refine OG.trans (OG.iconst C at_102 (z := (1 : Int32)) rfl (pc' := 103) rfl) ?_
          refine OG.trans (OG.goto C at_103 (by decide) (pc' := 107) (by decide)) ?_
          exact OG.refl
        refine OG.ow (OG.istore C at_107 (ls' := #[.val (.int x0), .val (.int x1), .val (.int (x0 &&& (3 : Int32))), .val (.int (if (x1 &&& (1 : Int32)) = (0 : Int32) then (0 : Int32) else (1 : Int32))), .val (.int (if (x1 &&& (2 : Int32)) = (0 : Int32) then (0 : Int32) else (1 : Int32))), .val (.ref a_XOR), .val (.int (if (if (x1 &&& (1 : Int32)) = (0 : Int32) then (0 : Int32) else (1 : Int32)) = (if (x1 &&& (2 : Int32)) = (0 : Int32) then (0 : Int32) else (1 : Int32)) then (0 : Int32) else (1 : Int32)))]) rfl (pc' := 109) rfl) ?_
        refine OG.ow (OG.goto C at_109 (by decide) (pc' := 133) (by decide)) ?_
        refine OG.ow (OG.aload C at_133 rfl rfl (pc' := 135) rfl) ?_
        refine OG.ow (OG.iloadN C at_135 rfl (pc' := 136) rfl) ?_
        refine OG.ow (OG.iload C at_136 rfl (pc' := 138) rfl) ?_
        refine OG.ow (OG.callV C (w3 hw) (w4 hw) (w6 hw) (w5 hw) (w1 hw) (w7 hw) (by decide) E_XOR (b1 hw a_XOR (if (x1 &&& (1 : Int32)) = (0 : Int32) then (0 : Int32) else (1 : Int32)) (if (x1 &&& (2 : Int32)) = (0 : Int32) then (0 : Int32) else (1 : Int32)) G_XOR_both G_XOR_leftOnly G_XOR_rightOnly) at_138 pd_0 rfl (argsL := [(.int (if (x1 &&& (1 : Int32)) = (0 : Int32) then (0 : Int32) else (1 : Int32))), (.int (if (x1 &&& (2 : Int32)) = (0 : Int32) then (0 : Int32) else (1 : Int32)))]) (rest := []) rfl rfl (W := 0) rfl (by decide) (by decide) (pc' := 141) rfl) ?_
        refine OG.ow (OG.iload C at_141 rfl (pc' := 143) rfl) ?_
        refine OG.ow (OG.icmpNo C at_143 (teq (by simp only [F1]; by_cases l1 : (x1 &&& (1 : Int32)) = (0 : Int32) <;> by_cases l2 : (x1 &&& (2 : Int32)) = (0 : Int32) <;> simp only [l1, l2, if_true, if_false] <;> decide)).2 (pc' := 146) rfl) ?_
        refine OG.ow (OG.iconst C at_146 (z := (1 : Int32)) rfl (pc' := 147) rfl) ?_
        refine OG.ow (OG.goto C at_147 (by decide) (pc' := 151) (by decide)) ?_
        refine OW.retN (t := .boolean) C (by simp) at_151 (by decide) (by decide) ?_
        rfl
      · refine OG.ow (OG.icmpYes C at_88 (feq hc3).2 (by decide) (pc' := 112) (by decide)) ?_
        refine OG.ow (OG.getS C (host := "") (Or.inl (w16 hw)) Via.refl S_AND_NOT at_112 (pc' := 115) rfl) ?_
        refine OG.ow (OG.astore C at_115 rfl (ls' := #[.val (.int x0), .val (.int x1), .val (.int (x0 &&& (3 : Int32))), .val (.int (if (x1 &&& (1 : Int32)) = (0 : Int32) then (0 : Int32) else (1 : Int32))), .val (.int (if (x1 &&& (2 : Int32)) = (0 : Int32) then (0 : Int32) else (1 : Int32))), .val (.ref a_AND_NOT), .unset]) rfl (pc' := 117) rfl) ?_
        refine OG.ow (OG.iloadN C at_117 rfl (pc' := 118) rfl) ?_
        refine OG.ow (OG.ite (α := Int32) (P := (x1 &&& (1 : Int32)) = (0 : Int32)) (f := fun v => (mkF m 131 #[.val (.int x0), .val (.int x1), .val (.int (x0 &&& (3 : Int32))), .val (.int (if (x1 &&& (1 : Int32)) = (0 : Int32) then (0 : Int32) else (1 : Int32))), .val (.int (if (x1 &&& (2 : Int32)) = (0 : Int32) then (0 : Int32) else (1 : Int32))), .val (.ref a_AND_NOT), .unset] [(.int v)])) (x := (0 : Int32)) (y := (if (x1 &&& (2 : Int32)) = (0 : Int32) then (1 : Int32) else (0 : Int32))) (fun hc => ?_) (fun hc => ?_)) ?_
        · refine OG.trans (OG.ifYes C at_118 (by rw [if_pos hc]; rfl) (by decide) (pc' := 130) (by decide)) ?_
          refine OG.trans (OG.iconst C at_130 (z := (0 : Int32)) rfl (pc' := 131) rfl) ?_
          exact OG.refl
        · refine OG.trans (OG.ifNo C at_118 (by rw [if_neg hc]; rfl) (pc' := 121) rfl) ?_
          refine OG.trans (OG.iload C at_121 rfl (pc' := 123) rfl) ?_
          refine OG.trans (OG.ite (α := Int32) (P := (x1 &&& (2 : Int32)) = (0 : Int32)) (f := fun v => (mkF m 131 #[.val (.int x0), .val (.int x1), .val (.int (x0 &&& (3 : Int32))), .val (.int (if (x1 &&& (1 : Int32)) = (0 : Int32) then (0 : Int32) else (1 : Int32))), .val (.int (if (x1 &&& (2 : Int32)) = (0 : Int32) then (0 : Int32) else (1 : Int32))), .val (.ref a_AND_NOT), .unset] [(.int v)])) (x := (1 : Int32)) (y := (0 : Int32)) (fun hc => ?_) (fun hc => ?_)) ?_
          · refine OG.trans (OG.ifNo C at_123 (by rw [if_pos hc]; rfl) (pc' := 126) rfl) ?_
            refine OG.trans (OG.iconst C at_126 (z := (1 : Int32)) rfl (pc' := 127) rfl) ?_
            refine OG.trans (OG.goto C at_127 (by decide) (pc' := 131) (by decide)) ?_
            exact OG.refl
          · refine OG.trans (OG.ifYes C at_123 (by rw [if_neg hc]; rfl) (by decide) (pc' := 130) (by decide)) ?_
            refine OG.trans (OG.iconst C at_130 (z := (0 : Int32)) rfl (pc' := 131) rfl) ?_
            exact OG.refl
          exact OG.refl
        refine OG.ow (OG.istore C at_131 (ls' := #[.val (.int x0), .val (.int x1), .val (.int (x0 &&& (3 : Int32))), .val (.int (if (x1 &&& (1 : Int32)) = (0 : Int32) then (0 : Int32) else (1 : Int32))), .val (.int (if (x1 &&& (2 : Int32)) = (0 : Int32) then (0 : Int32) else (1 : Int32))), .val (.ref a_AND_NOT), .val (.int (if (x1 &&& (1 : Int32)) = (0 : Int32) then (0 : Int32) else (if (x1 &&& (2 : Int32)) = (0 : Int32) then (1 : Int32) else (0 : Int32))))]) rfl (pc' := 133) rfl) ?_
        refine OG.ow (OG.aload C at_133 rfl rfl (pc' := 135) rfl) ?_
        refine OG.ow (OG.iloadN C at_135 rfl (pc' := 136) rfl) ?_
        refine OG.ow (OG.iload C at_136 rfl (pc' := 138) rfl) ?_
        refine OG.ow (OG.callV C (w3 hw) (w4 hw) (w6 hw) (w5 hw) (w1 hw) (w7 hw) (by decide) E_AND_NOT (b1 hw a_AND_NOT (if (x1 &&& (1 : Int32)) = (0 : Int32) then (0 : Int32) else (1 : Int32)) (if (x1 &&& (2 : Int32)) = (0 : Int32) then (0 : Int32) else (1 : Int32)) G_AND_NOT_both G_AND_NOT_leftOnly G_AND_NOT_rightOnly) at_138 pd_0 rfl (argsL := [(.int (if (x1 &&& (1 : Int32)) = (0 : Int32) then (0 : Int32) else (1 : Int32))), (.int (if (x1 &&& (2 : Int32)) = (0 : Int32) then (0 : Int32) else (1 : Int32)))]) (rest := []) rfl rfl (W := 0) rfl (by decide) (by decide) (pc' := 141) rfl) ?_
        refine OG.ow (OG.iload C at_141 rfl (pc' := 143) rfl) ?_
        refine OG.ow (OG.icmpNo C at_143 (teq (by simp only [F1]; by_cases l1 : (x1 &&& (1 : Int32)) = (0 : Int32) <;> by_cases l2 : (x1 &&& (2 : Int32)) = (0 : Int32) <;> simp only [l1, l2, if_true, if_false] <;> decide)).2 (pc' := 146) rfl) ?_
        refine OG.ow (OG.iconst C at_146 (z := (1 : Int32)) rfl (pc' := 147) rfl) ?_
        refine OG.ow (OG.goto C at_147 (by decide) (pc' := 151) (by decide)) ?_
        refine OW.retN (t := .boolean) C (by simp) at_151 (by decide) (by decide) ?_
        rfl
set_option maxRecDepth 65536 in
set_option maxHeartbeats 40000000 in
theorem comes_1 {Post : Tables → Env → Array Value → State → Outcome → State → Prop} (hpost : ∀ tb e args s v u, (limb_1_1.after args s (.returned v) u = true ∧ limb_1_2.after args s (.returned v) u = true ∧ True) → FrameEnd s (.returned v) u (Jvm.fieldLocs frame_1_writes args s ++ Jvm.arrayLocs frame_1_arrays args s ++ Jvm.staticLocs frame_1_statics s) 0 0 → Post tb e args s (.returned v) u) :
    ArmFor flags0 classFile x code maxLocals ret World_1 tables_1 room_1 Calls_1 rest_1 Pre_1 Post := by
  intro l hfl _ _ p e ha hc hk s m args below hf hA hF happ hP
  obtain ⟨hcalls, hrest, hpre⟩ := hP
  obtain ⟨-, -, -, hnamed, -, -, -, hat⟩ := (Spec.applies_iff hf).mp happ
  obtain ⟨hg, hn⟩ := and_e (Cond.before_iff.mp (show (Jvm.Cond.and given_1 narrow_1).before args s = true from hpre))
  obtain ⟨h1, q0⟩ := and_e hg
  obtain ⟨k0, q1⟩ := and_e q0
  obtain ⟨u0, u1, rfl⟩ : ∃ u0 u1 : Value, args = #[u0, u1] := by
    have hs : args.size = 2 := by simpa [Cond.value, given_1] using h1
    obtain ⟨L⟩ := args
    match L, hs with
    | [u0, u1], _ => exact ⟨u0, u1, rfl⟩
  have hw : HW #[u0, u1] s := fun d (hd : d ∈ tables_1) => atoms_spec (ws := Jvm.Cond.code x code maxLocals ret :: tables_1) hat d (List.mem_cons_of_mem _ hd)
  have hfit : Fit s := fun {y c} hc i hi => by
    obtain ⟨ha, rfl⟩ := Array.getElem?_eq_some_iff.mp hc
    have q := List.all_eq_true.mp ((Array.all_eq_true_iff_forall_mem.mp hF) _ (Array.getElem_mem ha)) i (List.mem_range.mpr hi)
    simpa [Array.getElem?_eq_getElem hi] using q
  obtain ⟨i0, e0⟩ := is_v k0
  obtain rfl : u0 = (.int i0) := Option.some.inj e0
  obtain ⟨i1, e1⟩ := is_v q1
  obtain rfl : u1 = (.int i1) := Option.some.inj e1
  obtain ⟨m0, mr0⟩ := and_e hn
  obtain ⟨m1, mr1⟩ := and_e mr0
  obtain ⟨m2, mr2⟩ := and_e mr1
  obtain ⟨m3, mr3⟩ := and_e mr2
  obtain ⟨m4, mr4⟩ := and_e mr3
  obtain ⟨m5, mr5⟩ := and_e mr4
  obtain ⟨m6, mr6⟩ := and_e mr5
  obtain ⟨m7, mr7⟩ := and_e mr6
  obtain ⟨m8, mr8⟩ := and_e mr7
  obtain ⟨m9, mr9⟩ := and_e mr8
  obtain ⟨m10, mr10⟩ := and_e mr9
  obtain ⟨m11, mr11⟩ := and_e mr10
  obtain ⟨m12, mr12⟩ := and_e mr11
  obtain ⟨m13, mr13⟩ := and_e mr12
  obtain ⟨m14, m15⟩ := and_e mr13
  obtain ⟨a_AND, r_AND⟩ := exa_v m0
  obtain ⟨a_OR, r_OR⟩ := exa_v m4
  obtain ⟨a_XOR, r_XOR⟩ := exa_v m2
  obtain ⟨a_AND_NOT, r_AND_NOT⟩ := exa_v m7
  obtain ⟨n, o, h1, h2, h3, _, L, rfl, ⟨hv, N⟩, hq⟩ := b0 (l := l) hw i0 i1 (Sta.start r_AND (Or.inr ⟨(w1 hw), (w2 hw)⟩)) (Exa.start r_AND m0) (Fld.start ((fld_at r_AND).symm.trans (Cond.eq_long (Cond.before_iff.mpr m1) rfl))) (Fld.start ((fld_at r_AND).symm.trans (Cond.eq_long (Cond.before_iff.mpr m6) rfl))) (Fld.start ((fld_at r_AND).symm.trans (Cond.eq_long (Cond.before_iff.mpr m15) rfl))) (Sta.start r_OR (Or.inr ⟨(w1 hw), (w15 hw)⟩)) (Exa.start r_OR m4) (Fld.start ((fld_at r_OR).symm.trans (Cond.eq_long (Cond.before_iff.mpr m11) rfl))) (Fld.start ((fld_at r_OR).symm.trans (Cond.eq_long (Cond.before_iff.mpr m5) rfl))) (Fld.start ((fld_at r_OR).symm.trans (Cond.eq_long (Cond.before_iff.mpr m12) rfl))) (Sta.start r_XOR (Or.inr ⟨(w1 hw), (w11 hw)⟩)) (Exa.start r_XOR m2) (Fld.start ((fld_at r_XOR).symm.trans (Cond.eq_long (Cond.before_iff.mpr m13) rfl))) (Fld.start ((fld_at r_XOR).symm.trans (Cond.eq_long (Cond.before_iff.mpr m3) rfl))) (Fld.start ((fld_at r_XOR).symm.trans (Cond.eq_long (Cond.before_iff.mpr m14) rfl))) (Sta.start r_AND_NOT (Or.inr ⟨(w1 hw), (w17 hw)⟩)) (Exa.start r_AND_NOT m7) (Fld.start ((fld_at r_AND_NOT).symm.trans (Cond.eq_long (Cond.before_iff.mpr m10) rfl))) (Fld.start ((fld_at r_AND_NOT).symm.trans (Cond.eq_long (Cond.before_iff.mpr m9) rfl))) (Fld.start ((fld_at r_AND_NOT).symm.trans (Cond.eq_long (Cond.before_iff.mpr m8) rfl))) (n0 := s.heap.size) (h := s.heap) tables_1 p e ha hc hk s m _ below hf ((Spec.applies_iff_loose hf).mp happ).1 ⟨rfl, State.Warmed39.refl s, rfl⟩ trivial
  subst hv
  refine ⟨n, _, h1, h2, h3, hpost _ _ _ _ _ _ ⟨Cond.after_iff.mpr rfl, Cond.after_iff.mpr (eq_i res_at (Term.int_eval (1)) rfl), trivial⟩ ⟨hq.1, hq.2.1, (hq.2.2.sift fun y hy => Or.inr (N y hy)).mono (by decide) (by decide)⟩⟩
theorem main_1_1 : Claimed_1_1 := comes_1 fun _ _ _ _ _ _ h hF => ⟨h.1, hF⟩
theorem main_1_2 : Claimed_1_2 := comes_1 fun _ _ _ _ _ _ h hF => ⟨h.2.1, hF⟩
end Jvm.Pilot.@@N@@
namespace Jvm.Pilot.@@N@@
open Jvm Jvm.ClassFile Sem Op Lib Jvm.Free Jvm.Stand Jvm.Pilot.@@N@@.Jvm.D
/-! MADE BY PROGRAM (witnessworld.py) out of the Statement's table words and the real class files: 12 classes; the members and pool entries that the words name. The judged class is class 1, her method 1. -/
namespace start1
open Jvm.ClassFile
def u (s : String) : CpInfo := .utf8 (stringToUtf16 s)
/-- a pool by its gaps: so many unusable entries, then the entry; so many at the end -/
def gap : Nat → List CpInfo → List CpInfo
  | 0, r => r
  | n + 1, r => .unusable :: gap n r
def poolList (es : List (Nat × CpInfo)) (last : Nat) : List CpInfo := es.foldr (fun e r => gap e.1 (e.2 :: r)) (gap last [])
def pool (es : List (Nat × CpInfo)) (last : Nat) : Array CpInfo := ⟨poolList es last⟩
def fileOf (pool : Array CpInfo) (this : Nat) (attrs : Array Attribute := #[]) (ms : Array MethodInfo := #[]) (fl : Nat := 33) (sup : Nat := 0) (ifs : Array Nat := #[]) (fds : Array FieldInfo := #[]) : ClassFile where
  minorVersion := 0
  majorVersion := 65
  constantPool := pool
  accessFlags := fl
  thisClass := this
  superClass := sup
  interfaces := ifs
  fields := fds
  methods := ms
  attributes := attrs
def plain (name : String) (sup : Option ClassId) : Class where
  name := name
  kind := .ordinary
  loader := none
  accessFlags := 33
  super := sup
  interfaces := #[]
  cf := none
  fields := #[]
  methods := #[]
  instanceTypes := #[]
  staticTypes := #[]
  resolved := #[]
  callSites := []
  init := .initialized
  statics := none
  mirror := none

def pool0 : Array CpInfo := pool [(5, u "<init>"), (0, u "()V"), (1, .class_ 10), (1, u "java/lang/Object")] 113

def k0m0 : Method := { name := "<init>", desc := "()V", sig := { parameters := [], returnType := none }, accessFlags := 1, code := none }
/-- java/lang/Object -/
def k0 : Class := { plain "java/lang/Object" none with
  accessFlags := 33
  interfaces := #[]
  cf := some (fileOf pool0 8 #[] #[{ accessFlags := 1, nameIndex := 5, descriptorIndex := 6, attributes := #[] }] 33 0 #[] #[])
  fields := #[]
  methods := #[k0m0]
  instanceTypes := #[]
  staticTypes := #[]
  resolved := Array.replicate 124 none
  statics := none }

def pool1 : Array CpInfo := pool [(2, .class_ 4), (1, u "java/lang/Object"), (0, u "<init>"), (0, u "()V"), (0, .fieldref 8 9), (0, .class_ 10), (0, .nameAndType 11 12), (0, u "com/example/bitgrove/bitgrove/SetOperation"), (0, u "AND"), (0, u "Lcom/example/bitgrove/bitgrove/SetOperation;"), (0, .fieldref 8 14), (0, .nameAndType 15 12), (0, u "OR"), (0, .fieldref 8 17), (0, .nameAndType 18 12), (0, u "XOR"), (0, .fieldref 8 20), (0, .nameAndType 21 12), (0, u "AND_NOT"), (0, .methodref 8 23), (0, .nameAndType 24 25), (0, u "keeps"), (0, u "(ZZ)Z"), (0, .class_ 27), (0, u "com/example/bitgrove/bitgrove/SetOperationKeepsPinLaw"), (2, u "law"), (0, u "(II)Z")] 3

def k1m0 : Method := { name := "<init>", desc := "()V", sig := { parameters := [], returnType := none }, accessFlags := 1, code := none }
def k1c1 : Code := { maxStack := 3, maxLocals := 7, code := code, exceptionTable := #[], attributes := #[] }
def k1m1 : Method := { name := "law", desc := "(II)Z", sig := { parameters := [.int, .int], returnType := some .boolean }, accessFlags := 9, code := some k1c1 }
/-- com/example/bitgrove/bitgrove/SetOperationKeepsPinLaw -/
def k1 : Class := { plain "com/example/bitgrove/bitgrove/SetOperationKeepsPinLaw" (some 0) with
  accessFlags := 49
  interfaces := #[]
  cf := some (fileOf pool1 26 #[] #[{ accessFlags := 1, nameIndex := 5, descriptorIndex := 6, attributes := #[] }, { accessFlags := 9, nameIndex := 30, descriptorIndex := 31, attributes := #[] }] 49 2 #[] #[])
  fields := #[]
  methods := #[k1m0, k1m1]
  instanceTypes := #[]
  staticTypes := #[]
  resolved := Array.replicate 35 none
  statics := none }

def pool2 : Array CpInfo := pool [(1, .class_ 2), (0, u "java/lang/constant/Constable"), (0, .class_ 4), (0, u "java/lang/Object")] 6

/-- java/lang/constant/Constable -/
def k2 : Class := { plain "java/lang/constant/Constable" (some 0) with
  accessFlags := 1537
  interfaces := #[]
  cf := some (fileOf pool2 1 #[] #[] 1537 3 #[] #[])
  fields := #[]
  methods := #[]
  instanceTypes := #[]
  staticTypes := #[]
  resolved := Array.replicate 11 none
  statics := none }

def pool3 : Array CpInfo := pool [(1, .class_ 2), (0, u "java/lang/Comparable"), (0, .class_ 4), (0, u "java/lang/Object")] 7

/-- java/lang/Comparable -/
def k3 : Class := { plain "java/lang/Comparable" (some 0) with
  accessFlags := 1537
  interfaces := #[]
  cf := some (fileOf pool3 1 #[] #[] 1537 3 #[] #[])
  fields := #[]
  methods := #[]
  instanceTypes := #[]
  staticTypes := #[]
  resolved := Array.replicate 12 none
  statics := none }

def pool4 : Array CpInfo := pool [(1, .class_ 2), (0, u "java/io/Serializable"), (0, .class_ 4), (0, u "java/lang/Object")] 2

/-- java/io/Serializable -/
def k4 : Class := { plain "java/io/Serializable" (some 0) with
  accessFlags := 1537
  interfaces := #[]
  cf := some (fileOf pool4 1 #[] #[] 1537 3 #[] #[])
  fields := #[]
  methods := #[]
  instanceTypes := #[]
  staticTypes := #[]
  resolved := Array.replicate 7 none
  statics := none }

def pool5 : Array CpInfo := pool [(2, .class_ 4), (1, u "java/lang/Enum"), (0, u "name"), (0, u "Ljava/lang/String;"), (2, u "ordinal"), (0, u "I"), (1, .class_ 14), (1, u "java/lang/Object"), (4, u "hash"), (86, .class_ 108), (1, u "java/lang/Enum$EnumDesc"), (2, .class_ 112), (0, u "java/lang/constant/Constable"), (0, .class_ 114), (0, u "java/lang/Comparable"), (0, .class_ 116), (0, u "java/io/Serializable")] 87

/-- java/lang/Enum -/
def k5 : Class := { plain "java/lang/Enum" (some 0) with
  accessFlags := 1057
  interfaces := #[2, 3, 4]
  cf := some (fileOf pool5 2 #[.nestMembers #[106]] #[] 1057 12 #[111, 113, 115] #[{ accessFlags := 18, nameIndex := 5, descriptorIndex := 6, attributes := #[] }, { accessFlags := 18, nameIndex := 9, descriptorIndex := 10, attributes := #[] }, { accessFlags := 2, nameIndex := 19, descriptorIndex := 10, attributes := #[] }])
  fields := #[{ name := "name", type := (.object "java/lang/String"), accessFlags := 18, slot := 0, constantValue := 0 }, { name := "ordinal", type := .int, accessFlags := 18, slot := 1, constantValue := 0 }, { name := "hash", type := .int, accessFlags := 2, slot := 2, constantValue := 0 }]
  methods := #[]
  instanceTypes := #[(.object "java/lang/String"), .int, .int]
  staticTypes := #[]
  resolved := Array.replicate 204 none
  statics := none }

def pool6 : Array CpInfo := pool [(1, .class_ 2), (0, u "com/example/bitgrove/bitgrove/SetOperation"), (2, u "AND"), (0, u "Lcom/example/bitgrove/bitgrove/SetOperation;"), (2, u "OR"), (2, u "XOR"), (2, u "AND_NOT"), (2, u "$VALUES"), (0, u "[Lcom/example/bitgrove/bitgrove/SetOperation;"), (6, .class_ 28), (1, u "java/lang/Enum"), (8, .fieldref 1 38), (0, .nameAndType 39 40), (0, u "both"), (0, u "J"), (0, .fieldref 1 42), (0, .nameAndType 43 40), (0, u "leftOnly"), (0, .fieldref 1 45), (0, .nameAndType 46 40), (0, u "rightOnly"), (65, u "keeps"), (0, u "(ZZ)Z")] 32

def k6c0 : Code := { maxStack := 4, maxLocals := 5, code := prog_90_method_4_code, exceptionTable := #[], attributes := #[] }
def k6m0 : Method := { name := "keeps", desc := "(ZZ)Z", sig := { parameters := [.boolean, .boolean], returnType := some .boolean }, accessFlags := 0, code := some k6c0 }
/-- com/example/bitgrove/bitgrove/SetOperation -/
def k6 : Class := { plain "com/example/bitgrove/bitgrove/SetOperation" (some 5) with
  accessFlags := 16432
  interfaces := #[]
  cf := some (fileOf pool6 1 #[] #[{ accessFlags := 0, nameIndex := 112, descriptorIndex := 113, attributes := #[] }] 16432 26 #[] #[{ accessFlags := 16409, nameIndex := 5, descriptorIndex := 6, attributes := #[] }, { accessFlags := 16409, nameIndex := 9, descriptorIndex := 6, attributes := #[] }, { accessFlags := 16409, nameIndex := 12, descriptorIndex := 6, attributes := #[] }, { accessFlags := 16409, nameIndex := 15, descriptorIndex := 6, attributes := #[] }, { accessFlags := 18, nameIndex := 39, descriptorIndex := 40, attributes := #[] }, { accessFlags := 18, nameIndex := 43, descriptorIndex := 40, attributes := #[] }, { accessFlags := 18, nameIndex := 46, descriptorIndex := 40, attributes := #[] }, { accessFlags := 4122, nameIndex := 18, descriptorIndex := 19, attributes := #[] }])
  fields := #[{ name := "AND", type := (.object "com/example/bitgrove/bitgrove/SetOperation"), accessFlags := 16409, slot := 0, constantValue := 0 }, { name := "OR", type := (.object "com/example/bitgrove/bitgrove/SetOperation"), accessFlags := 16409, slot := 1, constantValue := 0 }, { name := "XOR", type := (.object "com/example/bitgrove/bitgrove/SetOperation"), accessFlags := 16409, slot := 2, constantValue := 0 }, { name := "AND_NOT", type := (.object "com/example/bitgrove/bitgrove/SetOperation"), accessFlags := 16409, slot := 3, constantValue := 0 }, { name := "both", type := .long, accessFlags := 18, slot := 3, constantValue := 0 }, { name := "leftOnly", type := .long, accessFlags := 18, slot := 4, constantValue := 0 }, { name := "rightOnly", type := .long, accessFlags := 18, slot := 5, constantValue := 0 }, { name := "$VALUES", type := (.array (.object "com/example/bitgrove/bitgrove/SetOperation")), accessFlags := 4122, slot := 4, constantValue := 0 }]
  methods := #[k6m0]
  instanceTypes := #[(.object "java/lang/String"), .int, .int, .long, .long, .long]
  staticTypes := #[(.object "com/example/bitgrove/bitgrove/SetOperation"), (.object "com/example/bitgrove/bitgrove/SetOperation"), (.object "com/example/bitgrove/bitgrove/SetOperation"), (.object "com/example/bitgrove/bitgrove/SetOperation"), (.array (.object "com/example/bitgrove/bitgrove/SetOperation"))]
  resolved := Array.replicate 146 none
  statics := some 0 }

def pool7 : Array CpInfo := pool [(1, u "java/lang/Cloneable"), (0, .class_ 1), (0, u "java/lang/Object"), (0, .class_ 3)] 3

/-- java/lang/Cloneable -/
def k7 : Class := { plain "java/lang/Cloneable" (some 0) with
  accessFlags := 1537
  interfaces := #[]
  cf := some (fileOf pool7 2 #[] #[] 1537 4 #[] #[])
  fields := #[]
  methods := #[]
  instanceTypes := #[]
  staticTypes := #[]
  resolved := Array.replicate 8 none
  statics := none }

/-- the primitive byte -/
def k8 : Class := { plain "byte" none with kind := .primitive 'B', accessFlags := 0x411 }
/-- [B -/
def k9 : Class := { plain "[B" (some 0) with kind := .array 8 .byte, interfaces := #[7, 4], accessFlags := 1041 }

/-- the primitive int -/
def k10 : Class := { plain "int" none with kind := .primitive 'I', accessFlags := 0x411 }
/-- [I -/
def k11 : Class := { plain "[I" (some 0) with kind := .array 10 .int, interfaces := #[7, 4], accessFlags := 1041 }

def heap : Heap := #[{ cls := 6, slots := #[.ref 1, .ref 2, .ref 3, .ref 4, .null], vm := .statics 6 },
  { cls := 6, slots := #[.null, .int 0, .int 0, .long (-1), .long 0, .long 0], vm := .none },
  { cls := 6, slots := #[.null, .int 0, .int 0, .long (-1), .long (-1), .long (-1)], vm := .none },
  { cls := 6, slots := #[.null, .int 0, .int 0, .long 0, .long (-1), .long (-1)], vm := .none },
  { cls := 6, slots := #[.null, .int 0, .int 0, .long 0, .long (-1), .long 0], vm := .none }]
def classes : Array Class := #[k0, k1, k2, k3, k4, k5, k6, k7, k8, k9, k10, k11]
def interned : List (Array UInt16 × Addr) := []
def slotsUsed : Nat := 29
def theMethod : MethodId := ⟨1, 1⟩
def args0 : Array Value := #[.int 5, .int 3]
def aboutOver (below : List Frame) : State where
  vm := { classes := classes, interned := interned.toArray }
  heap := heap
  slotsUsed := slotsUsed
  threads := #[{ frames := .invoking theMethod args0 :: below }]
def below0 : List Frame := [.native { method := ⟨0, 0⟩, args := #[] }]
def about1 : State := aboutOver below0
def p0 : Program := .bare "" "" ""
def e0 : Env := launch0.env 0 0 0
theorem w_frames : about1.frames = Frame.invoking theMethod args0 :: below0 := rfl
set_option maxRecDepth 65536 in
theorem w_args : argsFit about1.vm theMethod args0 = true := by decide +kernel
set_option maxRecDepth 65536 in
theorem w_heap : heapFits about1 = true := by decide +kernel
set_option maxRecDepth 65536 in
theorem w_runnable : about1.curStatus? = some .runnable := by decide +kernel
set_option maxRecDepth 65536 in
theorem w_alone : about1.alone = true := by decide +kernel
set_option maxRecDepth 65536 in
theorem w_named : about1.methodNamed? x = some theMethod := by decide +kernel
set_option maxRecDepth 65536 in
theorem w_hears : about1.hears theMethod below0 = true := by decide +kernel
set_option maxRecDepth 65536 in
theorem w_ripe : about1.ripe theMethod args0 below0 = true := by decide +kernel
theorem w_running : about1.status = .running := rfl
set_option maxRecDepth 65536 in
theorem w_room : about1.hasRoom e0.platform room_1 = true :=
  launch0.hasRoom_least _ room_1 (by decide +kernel) (by decide +kernel) (by decide +kernel) (by decide +kernel) (by decide +kernel) (by decide +kernel)
theorem allAtoms_all (ts : List Jvm.Cond) (a : Array Jvm.Value) (st : Jvm.State) : (allAtoms ts).before a st = ts.all (fun c => c.before a st) := by
  induction ts with
  | nil => rfl
  | cons c t ih =>
    show (Jvm.Cond.and c (allAtoms t)).before a st = _
    rw [Jvm.Cond.before_and, ih, List.all_cons]
def words1 : List Jvm.Cond := Jvm.Cond.code x code maxLocals ret :: tables_1
/-- a 'code' word, met by the world's own term for the bytes: nothing is compared byte by byte -/
theorem code_word {y : MethodName} {bytes : ByteArray} {mx : Nat} {rt : Option FieldType} {a : Array Value} {s : State} {m : MethodId} {meth : Method} {c : Code} (h1 : s.methodNamed? y = some m) (h2 : s.vm.method? m = some meth) (h3 : meth.code = some c) (h4 : c.code = bytes)
    (h5 : (c.maxLocals == mx && c.exceptionTable.isEmpty && decide (c.maxStack ≤ mostOperands) && decide (meth.sig.returnType = rt) && !meth.locks && decide (parseMethodDescriptor y.desc = some meth.sig)) = true) : (Jvm.Cond.code y bytes mx rt).before a s = true := by
  simp only [Bool.and_eq_true, beq_iff_eq, Bool.not_eq_true', decide_eq_true_eq] at h5
  obtain ⟨⟨⟨⟨⟨g1, g2⟩, g3⟩, g4⟩, g5⟩, g6⟩ := h5
  simp [Cond.before, Cond.holds, Cond.value, h1, h2, h3, h4, g1, g2, g3, g4, g5, g6]
def isCode : Jvm.Cond → Bool
  | .code _ _ _ _ => true
  | _ => false
theorem all_split {L : List Jvm.Cond} {P : Jvm.Cond → Bool} (h1 : L.all (fun c => isCode c || P c) = true) (h2 : ∀ c ∈ L.filter isCode, P c = true) : L.all P = true := by
  refine List.all_eq_true.mpr fun c hc => ?_
  have h := List.all_eq_true.mp h1 c hc
  rcases Bool.eq_false_or_eq_true (isCode c) with hi | hi
  · exact h2 c (List.mem_filter.mpr ⟨hc, hi⟩)
  · simpa [hi] using h
set_option maxRecDepth 65536 in
theorem w_c0 : (Jvm.Cond.code x code maxLocals ret).before args0 about1 = true := code_word (m := ⟨1, 1⟩) (meth := k1m1) (c := k1c1) (by decide +kernel) rfl rfl rfl (by decide +kernel)
set_option maxRecDepth 65536 in
theorem w_c1 : (Jvm.Cond.code ({ cls := "com/example/bitgrove/bitgrove/SetOperation", name := "keeps", desc := "(ZZ)Z" } : Jvm.MethodName) prog_90_method_4_code (5 : Nat) (Option.some Jvm.ClassFile.FieldType.boolean)).before args0 about1 = true := code_word (m := ⟨6, 0⟩) (meth := k6m0) (c := k6c0) (by decide +kernel) rfl rfl rfl (by decide +kernel)
def codes1 : List Jvm.Cond := [Jvm.Cond.code x code maxLocals ret, Jvm.Cond.code ({ cls := "com/example/bitgrove/bitgrove/SetOperation", name := "keeps", desc := "(ZZ)Z" } : Jvm.MethodName) prog_90_method_4_code (5 : Nat) (Option.some Jvm.ClassFile.FieldType.boolean)]
set_option maxRecDepth 65536 in
theorem codes_eq : words1.filter isCode = codes1 := rfl
theorem w_codes : ∀ c ∈ words1.filter isCode, c.before args0 about1 = true := by
  rw [codes_eq]
  intro c hc
  simp only [codes1, List.mem_cons, List.not_mem_nil, or_false] at hc
  rcases hc with rfl | rfl
  · exact w_c0
  · exact w_c1
set_option maxRecDepth 65536 in
theorem w_t1 : words1.all (fun c => isCode c || c.before args0 about1) = true := by decide +kernel
theorem w_tables : (allAtoms (Jvm.Cond.code x code maxLocals ret :: tables_1)).before args0 about1 = true := by
  rw [allAtoms_all]
  show words1.all (fun c => c.before args0 about1) = true
  refine all_split ?_ w_codes
  rw [w_t1]
set_option maxRecDepth 65536 in
theorem w_case : (Jvm.Cond.and given_1 narrow_1).before args0 about1 = true := by decide +kernel
theorem w_applies : (headSpec (Jvm.Cond.code x code maxLocals ret :: tables_1) room_1).applies x e0.platform about1 = true :=
  (Spec.applies_iff w_frames).mpr ⟨w_running, w_runnable, w_alone, w_named, w_hears, w_ripe, w_room, w_tables⟩
theorem atStart : AtStart classFile x code maxLocals ret World_1 tables_1 room_1 Calls_1 rest_1 Pre_1 launch0 p0 e0 about1 theMethod args0 below0 :=
  ⟨lists_1, trivial, launch0.admits_env _ _ _, launch0.least_env, fairChoices_fair.cas, fairChoices_fair.clock, w_frames, w_args, w_heap, w_applies, trivial, trivial, w_case⟩
end start1
theorem witness_1 : WitnessClaimed_1 := ⟨start1.p0, start1.e0, start1.about1, start1.theMethod, start1.args0, start1.below0, start1.atStart⟩
end Jvm.Pilot.@@N@@
