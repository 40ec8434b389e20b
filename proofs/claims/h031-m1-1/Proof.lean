import JvmDerived
import JvmDerived.Pilot.@@N@@Statement
import JvmDerived.Pilot.@@N@@Code
set_option linter.unusedVariables false
set_option linter.unusedSimpArgs false
namespace Jvm.RoadKit
open Sem ClassFile Op Lib Jvm.Stand Jvm.Free Jvm.LawKit
section Own
variable {p : Program} {l : Launch} {e : Env} {R : Room} {s : State} {m : MethodId} {args : Array Value} {below : List Frame} {meth : Method} {c : Code} {Z : State} {a0 : Array Value}
/-- what a body's walk stands on -/
def OC (p : Program) (s : State) (m : MethodId) (meth : Method) (c : Code) (Z : State) (own nm : String) (bytes : ByteArray) (ml : Nat) (ret : Option FieldType) : Prop :=
  p.tables.exec = Jvm.exec ∧ c.code = bytes ∧ Z.Warmed39 s.vm ∧ s.vm.findClass own = some m.cls ∧ c.maxLocals = ml ∧ meth.sig.returnType = ret ∧ meth.locks = false ∧ meth.name = nm
/-- where the walk stands: the heap, what has been made, what has been written -/
def OS (p : Program) (l : Launch) (e : Env) (R : Room) (s : State) (m : MethodId) (args : Array Value) (below : List Frame) (meth : Method) (c : Code) (n0 : Nat) (h : Heap) (cl sl : Nat) (T : State) (locs : List Loc) : Prop :=
  Stand p l e R s m args below meth c T locs cl sl ∧ Fr n0 locs ∧ T.heap = h ∧ cl ≤ R.cells ∧ sl ≤ R.slots
/-- a run that leaves the heap as it is: from the frame g to the frame g' -/
def OG (p : Program) (l : Launch) (e : Env) (R : Room) (s : State) (m : MethodId) (args : Array Value) (below : List Frame) (meth : Method) (c : Code) (n0 : Nat) (h : Heap) (g g' : JFrame) : Prop :=
  ∀ T locs cl sl, OS p l e R s m args below meth c n0 h cl sl T locs →
    ∃ T' locs', OS p l e R s m args below meth c n0 h cl sl T' locs' ∧ ∀ target, Steps p.tables e below (T'.setTop g') target → Steps p.tables e below (T.setTop g) target
/-- what is left to run from the frame g: it returns, and Q holds of what it returns and of the heap -/
def OW (p : Program) (l : Launch) (e : Env) (R : Room) (s : State) (m : MethodId) (args : Array Value) (below : List Frame) (meth : Method) (c : Code) (n0 : Nat) (Q : Option Value → Heap → Prop) (K N : Nat) (h : Heap) (cl sl : Nat) (g : JFrame) : Prop :=
  ∀ T locs, OS p l e R s m args below meth c n0 h cl sl T locs →
    ∃ s₂ o, Steps p.tables e below (T.setTop g) s₂ ∧ s₂.status = .running ∧ Ended s₂ below o ∧ ∃ v L, o = .returned v ∧ (Q v s₂.heap ∧ Fr n0 L) ∧ FrameEnd s o s₂ L K N
variable {own nm : String} {bytes : ByteArray} {ml n0 K N : Nat} {ret : Option FieldType} {Q : Option Value → Heap → Prop} {h : Heap} {cl sl : Nat} {g g' g'' : JFrame} {pc pc' : Nat} {ls ls' : Array Slot} {st : List Value}
theorem OG.refl : OG p l e R s m args below meth c n0 h g g := fun T locs _ _ X => ⟨T, locs, X, fun _ k => k⟩
theorem OG.trans (A : OG p l e R s m args below meth c n0 h g g') (B : OG p l e R s m args below meth c n0 h g' g'') : OG p l e R s m args below meth c n0 h g g'' := fun T locs cl sl X => by
  obtain ⟨T1, L1, X1, k1⟩ := A T locs cl sl X
  obtain ⟨T2, L2, X2, k2⟩ := B T1 L1 cl sl X1
  exact ⟨T2, L2, X2, fun t k => k1 t (k2 t k)⟩
theorem OG.ow (A : OG p l e R s m args below meth c n0 h g g') (B : OW p l e R s m args below meth c n0 Q K N h cl sl g') : OW p l e R s m args below meth c n0 Q K N h cl sl g := fun T locs X => by
  obtain ⟨T1, L1, X1, k1⟩ := A T locs cl sl X
  obtain ⟨s₂, o, q, r⟩ := B T1 L1 X1
  exact ⟨s₂, o, k1 _ q, r⟩
theorem OG.cast (A : OG p l e R s m args below meth c n0 h g g') (q : g' = g'') : OG p l e R s m args below meth c n0 h g g'' := q ▸ A
theorem OW.cast (q : g = g') (A : OW p l e R s m args below meth c n0 Q K N h cl sl g') : OW p l e R s m args below meth c n0 Q K N h cl sl g := q ▸ A
theorem OW.more {cl' sl' : Nat} (A : OW p l e R s m args below meth c n0 Q K N h cl' sl' g) (q1 : cl ≤ cl') (q2 : sl ≤ sl') (q3 : cl' ≤ R.cells) (q4 : sl' ≤ R.slots) : OW p l e R s m args below meth c n0 Q K N h cl sl g := fun T locs X => A T locs ⟨X.1.more q1 q2, X.2.1, X.2.2.1, q3, q4⟩
/-- the two arms of a branch meet -/
theorem OG.ite {α : Type} {P : Prop} [Decidable P] {f : α → JFrame} {x y : α} (A : P → OG p l e R s m args below meth c n0 h g (f x)) (B : ¬ P → OG p l e R s m args below meth c n0 h g (f y)) : OG p l e R s m args below meth c n0 h g (f (if P then x else y)) := by
  by_cases q : P
  · rw [if_pos q]; exact A q
  · rw [if_neg q]; exact B q
theorem OG.of (k : ∀ (s' : State) T locs cl sl, Stand p l e R s' m args below meth c T locs cl sl → ∀ target, Steps p.tables e below (T.setTop g') target → Steps p.tables e below (T.setTop g) target) : OG p l e R s m args below meth c n0 h g g' :=
  fun T locs _ _ X => ⟨T, locs, X, k _ T locs _ _ X.1⟩
theorem OC.d (C : OC p s m meth c Z own nm bytes ml ret) {r : Except DecodeError (Instr × Nat)} (q : decode bytes pc = r) : decode c.code pc = r := by rw [C.2.1]; exact q
theorem OG.ite0 {P : Prop} [Decidable P] (A : P → OG p l e R s m args below meth c n0 h g g') (B : ¬ P → OG p l e R s m args below meth c n0 h g g') : OG p l e R s m args below meth c n0 h g g' := by
  by_cases q : P
  · exact A q
  · exact B q
theorem OG.ite2 {α β : Type} {P : Prop} [Decidable P] {f : α → β → JFrame} {x y : α} {x' y' : β} (A : P → OG p l e R s m args below meth c n0 h g (f x x')) (B : ¬ P → OG p l e R s m args below meth c n0 h g (f y y')) : OG p l e R s m args below meth c n0 h g (f (if P then x else y) (if P then x' else y')) := by
  by_cases q : P
  · rw [if_pos q, if_pos q]; exact A q
  · rw [if_neg q, if_neg q]; exact B q
theorem OG.iloadN (C : OC p s m meth c Z own nm bytes ml ret) {k : Fin 4} {v : Int32} (hd : decode bytes pc = .ok (.iload_n k, 1)) (hl : ls[k.val]? = some (.val (.int v))) (hp : pc + 1 = pc') : OG p l e R s m args below meth c n0 h (mkF m pc ls st) (mkF m pc' ls (.int v :: st)) := by
  subst hp
  exact OG.of fun s' T locs cl sl X target k => XS.iloadN X.here C.1 rfl (C.d hd) hl k
theorem OG.iload (C : OC p s m meth c Z own nm bytes ml ret) {k : Nat} {v : Int32} (hd : decode bytes pc = .ok (.iload k, 2)) (hl : ls[k]? = some (.val (.int v))) (hp : pc + 2 = pc') : OG p l e R s m args below meth c n0 h (mkF m pc ls st) (mkF m pc' ls (.int v :: st)) := by
  subst hp
  exact OG.of fun s' T locs cl sl X target k => XS.iload X.here C.1 rfl (C.d hd) hl k
theorem OG.lloadN (C : OC p s m meth c Z own nm bytes ml ret) {k : Fin 4} {v : Int64} (hd : decode bytes pc = .ok (.lload_n k, 1)) (hl : ls[k.val]? = some (.val (.long v))) (hp : pc + 1 = pc') : OG p l e R s m args below meth c n0 h (mkF m pc ls st) (mkF m pc' ls (.long v :: st)) := by
  subst hp
  exact OG.of fun s' T locs cl sl X target k => XS.lloadN X.here C.1 rfl (C.d hd) hl k
theorem OG.lload (C : OC p s m meth c Z own nm bytes ml ret) {k : Nat} {v : Int64} (hd : decode bytes pc = .ok (.lload k, 2)) (hl : ls[k]? = some (.val (.long v))) (hp : pc + 2 = pc') : OG p l e R s m args below meth c n0 h (mkF m pc ls st) (mkF m pc' ls (.long v :: st)) := by
  subst hp
  exact OG.of fun s' T locs cl sl X target k => XS.lload X.here C.1 rfl (C.d hd) hl k
theorem OG.aloadN (C : OC p s m meth c Z own nm bytes ml ret) {k : Fin 4} {v : Value} (hd : decode bytes pc = .ok (.aload_n k, 1)) (hl : ls[k.val]? = some (.val v)) (hv : v.isRef = true) (hp : pc + 1 = pc') : OG p l e R s m args below meth c n0 h (mkF m pc ls st) (mkF m pc' ls (v :: st)) := by
  subst hp
  exact OG.of fun s' T locs cl sl X target k => XS.aloadN X.here C.1 rfl (C.d hd) hl hv k
theorem OG.aload (C : OC p s m meth c Z own nm bytes ml ret) {k : Nat} {v : Value} (hd : decode bytes pc = .ok (.aload k, 2)) (hl : ls[k]? = some (.val v)) (hv : v.isRef = true) (hp : pc + 2 = pc') : OG p l e R s m args below meth c n0 h (mkF m pc ls st) (mkF m pc' ls (v :: st)) := by
  subst hp
  exact OG.of fun s' T locs cl sl X target k => XS.aload X.here C.1 rfl (C.d hd) hl hv k
theorem OG.istoreN (C : OC p s m meth c Z own nm bytes ml ret) {k : Fin 4} {v : Int32} (hd : decode bytes pc = .ok (.istore_n k, 1)) (hl : storeLocals ls k.val (.int v) = some ls') (hp : pc + 1 = pc') : OG p l e R s m args below meth c n0 h (mkF m pc ls (.int v :: st)) (mkF m pc' ls' st) := by
  subst hp
  exact OG.of fun s' T locs cl sl X target k => XS.istoreN X.here C.1 rfl (C.d hd) rfl hl k
theorem OG.istore (C : OC p s m meth c Z own nm bytes ml ret) {k : Nat} {v : Int32} (hd : decode bytes pc = .ok (.istore k, 2)) (hl : storeLocals ls k (.int v) = some ls') (hp : pc + 2 = pc') : OG p l e R s m args below meth c n0 h (mkF m pc ls (.int v :: st)) (mkF m pc' ls' st) := by
  subst hp
  exact OG.of fun s' T locs cl sl X target k => XS.istore X.here C.1 rfl (C.d hd) rfl hl k
theorem OG.lstoreN (C : OC p s m meth c Z own nm bytes ml ret) {k : Fin 4} {v : Int64} (hd : decode bytes pc = .ok (.lstore_n k, 1)) (hl : storeLocals ls k.val (.long v) = some ls') (hp : pc + 1 = pc') : OG p l e R s m args below meth c n0 h (mkF m pc ls (.long v :: st)) (mkF m pc' ls' st) := by
  subst hp
  exact OG.of fun s' T locs cl sl X target k => XS.lstoreN X.here C.1 rfl (C.d hd) rfl hl k
theorem OG.lstore (C : OC p s m meth c Z own nm bytes ml ret) {k : Nat} {v : Int64} (hd : decode bytes pc = .ok (.lstore k, 2)) (hl : storeLocals ls k (.long v) = some ls') (hp : pc + 2 = pc') : OG p l e R s m args below meth c n0 h (mkF m pc ls (.long v :: st)) (mkF m pc' ls' st) := by
  subst hp
  exact OG.of fun s' T locs cl sl X target k => XS.lstore X.here C.1 rfl (C.d hd) rfl hl k
theorem OG.astoreN (C : OC p s m meth c Z own nm bytes ml ret) {k : Fin 4} {v : Value} (hd : decode bytes pc = .ok (.astore_n k, 1)) (hv : v.isRef = true) (hl : storeLocals ls k.val v = some ls') (hp : pc + 1 = pc') : OG p l e R s m args below meth c n0 h (mkF m pc ls (v :: st)) (mkF m pc' ls' st) := by
  subst hp
  exact OG.of fun s' T locs cl sl X target k => XS.astoreN X.here C.1 rfl (C.d hd) rfl hv hl k
theorem OG.astore (C : OC p s m meth c Z own nm bytes ml ret) {k : Nat} {v : Value} (hd : decode bytes pc = .ok (.astore k, 2)) (hv : v.isRef = true) (hl : storeLocals ls k v = some ls') (hp : pc + 2 = pc') : OG p l e R s m args below meth c n0 h (mkF m pc ls (v :: st)) (mkF m pc' ls' st) := by
  subst hp
  exact OG.of fun s' T locs cl sl X target k => XS.astore X.here C.1 rfl (C.d hd) rfl hv hl k
theorem OG.iconst (C : OC p s m meth c Z own nm bytes ml ret) {i : Int} {z : Int32} (hd : decode bytes pc = .ok (.iconst i, 1)) (hz : Int32.ofInt i = z) (hp : pc + 1 = pc') : OG p l e R s m args below meth c n0 h (mkF m pc ls st) (mkF m pc' ls (.int z :: st)) := by
  subst hp hz
  exact OG.of fun s' T locs cl sl X target k => XS.iconst X.here C.1 rfl (C.d hd)  k
theorem OG.bipush (C : OC p s m meth c Z own nm bytes ml ret) {i : Int} {z : Int32} (hd : decode bytes pc = .ok (.bipush i, 2)) (hz : (Int8.ofInt i).toInt32 = z) (hp : pc + 2 = pc') : OG p l e R s m args below meth c n0 h (mkF m pc ls st) (mkF m pc' ls (.int z :: st)) := by
  subst hp hz
  exact OG.of fun s' T locs cl sl X target k => XS.bipush X.here C.1 rfl (C.d hd)  k
theorem OG.sipush (C : OC p s m meth c Z own nm bytes ml ret) {i : Int} {z : Int32} (hd : decode bytes pc = .ok (.sipush i, 3)) (hz : (Int16.ofInt i).toInt32 = z) (hp : pc + 3 = pc') : OG p l e R s m args below meth c n0 h (mkF m pc ls st) (mkF m pc' ls (.int z :: st)) := by
  subst hp hz
  exact OG.of fun s' T locs cl sl X target k => XS.sipush X.here C.1 rfl (C.d hd)  k
theorem OG.lconst (C : OC p s m meth c Z own nm bytes ml ret) {i : Fin 2} {z : Int64} (hd : decode bytes pc = .ok (.lconst i, 1)) (hz : Int64.ofNat i = z) (hp : pc + 1 = pc') : OG p l e R s m args below meth c n0 h (mkF m pc ls st) (mkF m pc' ls (.long z :: st)) := by
  subst hp hz
  exact OG.of fun s' T locs cl sl X target k => XS.lconst X.here C.1 rfl (C.d hd)  k
theorem OG.aconst_null (C : OC p s m meth c Z own nm bytes ml ret)  (hd : decode bytes pc = .ok (.aconst_null, 1))  (hp : pc + 1 = pc') : OG p l e R s m args below meth c n0 h (mkF m pc ls st) (mkF m pc' ls (.null :: st)) := by
  subst hp
  exact OG.of fun s' T locs cl sl X target k => XS.aconstNull X.here C.1 rfl (C.d hd)  k
theorem OG.iadd (C : OC p s m meth c Z own nm bytes ml ret) {x y : Int32} (hd : decode bytes pc = .ok (.iadd, 1))  (hp : pc + 1 = pc') : OG p l e R s m args below meth c n0 h (mkF m pc ls (.int y :: .int x :: st)) (mkF m pc' ls (.int (x + y) :: st)) := by
  subst hp
  exact OG.of fun s' T locs cl sl X target k => XS.iadd X.here C.1 rfl (C.d hd) rfl k
theorem OG.ladd (C : OC p s m meth c Z own nm bytes ml ret) {x y : Int64} (hd : decode bytes pc = .ok (.ladd, 1))  (hp : pc + 1 = pc') : OG p l e R s m args below meth c n0 h (mkF m pc ls (.long y :: .long x :: st)) (mkF m pc' ls (.long (x + y) :: st)) := by
  subst hp
  exact OG.of fun s' T locs cl sl X target k => XS.ladd X.here C.1 rfl (C.d hd) rfl k
theorem OG.isub (C : OC p s m meth c Z own nm bytes ml ret) {x y : Int32} (hd : decode bytes pc = .ok (.isub, 1))  (hp : pc + 1 = pc') : OG p l e R s m args below meth c n0 h (mkF m pc ls (.int y :: .int x :: st)) (mkF m pc' ls (.int (x - y) :: st)) := by
  subst hp
  exact OG.of fun s' T locs cl sl X target k => XS.isub X.here C.1 rfl (C.d hd) rfl k
theorem OG.lsub (C : OC p s m meth c Z own nm bytes ml ret) {x y : Int64} (hd : decode bytes pc = .ok (.lsub, 1))  (hp : pc + 1 = pc') : OG p l e R s m args below meth c n0 h (mkF m pc ls (.long y :: .long x :: st)) (mkF m pc' ls (.long (x - y) :: st)) := by
  subst hp
  exact OG.of fun s' T locs cl sl X target k => XS.lsub X.here C.1 rfl (C.d hd) rfl k
theorem OG.imul (C : OC p s m meth c Z own nm bytes ml ret) {x y : Int32} (hd : decode bytes pc = .ok (.imul, 1))  (hp : pc + 1 = pc') : OG p l e R s m args below meth c n0 h (mkF m pc ls (.int y :: .int x :: st)) (mkF m pc' ls (.int (x * y) :: st)) := by
  subst hp
  exact OG.of fun s' T locs cl sl X target k => XS.imul X.here C.1 rfl (C.d hd) rfl k
theorem OG.lmul (C : OC p s m meth c Z own nm bytes ml ret) {x y : Int64} (hd : decode bytes pc = .ok (.lmul, 1))  (hp : pc + 1 = pc') : OG p l e R s m args below meth c n0 h (mkF m pc ls (.long y :: .long x :: st)) (mkF m pc' ls (.long (x * y) :: st)) := by
  subst hp
  exact OG.of fun s' T locs cl sl X target k => XS.lmul X.here C.1 rfl (C.d hd) rfl k
theorem OG.iand (C : OC p s m meth c Z own nm bytes ml ret) {x y : Int32} (hd : decode bytes pc = .ok (.iand, 1))  (hp : pc + 1 = pc') : OG p l e R s m args below meth c n0 h (mkF m pc ls (.int y :: .int x :: st)) (mkF m pc' ls (.int (x &&& y) :: st)) := by
  subst hp
  exact OG.of fun s' T locs cl sl X target k => XS.iand X.here C.1 rfl (C.d hd) rfl k
theorem OG.land (C : OC p s m meth c Z own nm bytes ml ret) {x y : Int64} (hd : decode bytes pc = .ok (.land, 1))  (hp : pc + 1 = pc') : OG p l e R s m args below meth c n0 h (mkF m pc ls (.long y :: .long x :: st)) (mkF m pc' ls (.long (x &&& y) :: st)) := by
  subst hp
  exact OG.of fun s' T locs cl sl X target k => XS.land X.here C.1 rfl (C.d hd) rfl k
theorem OG.ior (C : OC p s m meth c Z own nm bytes ml ret) {x y : Int32} (hd : decode bytes pc = .ok (.ior, 1))  (hp : pc + 1 = pc') : OG p l e R s m args below meth c n0 h (mkF m pc ls (.int y :: .int x :: st)) (mkF m pc' ls (.int (x ||| y) :: st)) := by
  subst hp
  exact OG.of fun s' T locs cl sl X target k => XS.ior X.here C.1 rfl (C.d hd) rfl k
theorem OG.lor (C : OC p s m meth c Z own nm bytes ml ret) {x y : Int64} (hd : decode bytes pc = .ok (.lor, 1))  (hp : pc + 1 = pc') : OG p l e R s m args below meth c n0 h (mkF m pc ls (.long y :: .long x :: st)) (mkF m pc' ls (.long (x ||| y) :: st)) := by
  subst hp
  exact OG.of fun s' T locs cl sl X target k => XS.lor X.here C.1 rfl (C.d hd) rfl k
theorem OG.ixor (C : OC p s m meth c Z own nm bytes ml ret) {x y : Int32} (hd : decode bytes pc = .ok (.ixor, 1))  (hp : pc + 1 = pc') : OG p l e R s m args below meth c n0 h (mkF m pc ls (.int y :: .int x :: st)) (mkF m pc' ls (.int (x ^^^ y) :: st)) := by
  subst hp
  exact OG.of fun s' T locs cl sl X target k => XS.ixor X.here C.1 rfl (C.d hd) rfl k
theorem OG.lxor (C : OC p s m meth c Z own nm bytes ml ret) {x y : Int64} (hd : decode bytes pc = .ok (.lxor, 1))  (hp : pc + 1 = pc') : OG p l e R s m args below meth c n0 h (mkF m pc ls (.long y :: .long x :: st)) (mkF m pc' ls (.long (x ^^^ y) :: st)) := by
  subst hp
  exact OG.of fun s' T locs cl sl X target k => XS.lxor X.here C.1 rfl (C.d hd) rfl k
theorem OG.idiv (C : OC p s m meth c Z own nm bytes ml ret) {x y : Int32} (hd : decode bytes pc = .ok (.idiv, 1)) (hy : y ≠ 0) (hp : pc + 1 = pc') : OG p l e R s m args below meth c n0 h (mkF m pc ls (.int y :: .int x :: st)) (mkF m pc' ls (.int (x / y) :: st)) := by
  subst hp
  exact OG.of fun s' T locs cl sl X target k => XS.idiv X.here C.1 rfl (C.d hd) rfl hy k
theorem OG.ldiv (C : OC p s m meth c Z own nm bytes ml ret) {x y : Int64} (hd : decode bytes pc = .ok (.ldiv, 1)) (hy : y ≠ 0) (hp : pc + 1 = pc') : OG p l e R s m args below meth c n0 h (mkF m pc ls (.long y :: .long x :: st)) (mkF m pc' ls (.long (x / y) :: st)) := by
  subst hp
  exact OG.of fun s' T locs cl sl X target k => XS.ldiv X.here C.1 rfl (C.d hd) rfl hy k
theorem OG.ineg (C : OC p s m meth c Z own nm bytes ml ret) {x : Int32} (hd : decode bytes pc = .ok (.ineg, 1))  (hp : pc + 1 = pc') : OG p l e R s m args below meth c n0 h (mkF m pc ls (.int x :: st)) (mkF m pc' ls (.int (-x) :: st)) := by
  subst hp
  exact OG.of fun s' T locs cl sl X target k => XS.ineg X.here C.1 rfl (C.d hd) rfl k
theorem OG.lneg (C : OC p s m meth c Z own nm bytes ml ret) {x : Int64} (hd : decode bytes pc = .ok (.lneg, 1))  (hp : pc + 1 = pc') : OG p l e R s m args below meth c n0 h (mkF m pc ls (.long x :: st)) (mkF m pc' ls (.long (-x) :: st)) := by
  subst hp
  exact OG.of fun s' T locs cl sl X target k => XS.lneg X.here C.1 rfl (C.d hd) rfl k
theorem OG.i2l (C : OC p s m meth c Z own nm bytes ml ret) {x : Int32} (hd : decode bytes pc = .ok (.i2l, 1))  (hp : pc + 1 = pc') : OG p l e R s m args below meth c n0 h (mkF m pc ls (.int x :: st)) (mkF m pc' ls (.long x.toInt64 :: st)) := by
  subst hp
  exact OG.of fun s' T locs cl sl X target k => XS.i2l X.here C.1 rfl (C.d hd) rfl k
theorem OG.l2i (C : OC p s m meth c Z own nm bytes ml ret) {x : Int64} (hd : decode bytes pc = .ok (.l2i, 1))  (hp : pc + 1 = pc') : OG p l e R s m args below meth c n0 h (mkF m pc ls (.long x :: st)) (mkF m pc' ls (.int x.toInt32 :: st)) := by
  subst hp
  exact OG.of fun s' T locs cl sl X target k => XS.l2i X.here C.1 rfl (C.d hd) rfl k
theorem OG.i2b (C : OC p s m meth c Z own nm bytes ml ret) {x : Int32} (hd : decode bytes pc = .ok (.i2b, 1))  (hp : pc + 1 = pc') : OG p l e R s m args below meth c n0 h (mkF m pc ls (.int x :: st)) (mkF m pc' ls (.int x.toInt8.toInt32 :: st)) := by
  subst hp
  exact OG.of fun s' T locs cl sl X target k => XS.i2b X.here C.1 rfl (C.d hd) rfl k
theorem OG.i2c (C : OC p s m meth c Z own nm bytes ml ret) {x : Int32} (hd : decode bytes pc = .ok (.i2c, 1))  (hp : pc + 1 = pc') : OG p l e R s m args below meth c n0 h (mkF m pc ls (.int x :: st)) (mkF m pc' ls (.int x.toUInt32.toUInt16.toUInt32.toInt32 :: st)) := by
  subst hp
  exact OG.of fun s' T locs cl sl X target k => XS.i2c X.here C.1 rfl (C.d hd) rfl k
theorem OG.i2s (C : OC p s m meth c Z own nm bytes ml ret) {x : Int32} (hd : decode bytes pc = .ok (.i2s, 1))  (hp : pc + 1 = pc') : OG p l e R s m args below meth c n0 h (mkF m pc ls (.int x :: st)) (mkF m pc' ls (.int x.toInt16.toInt32 :: st)) := by
  subst hp
  exact OG.of fun s' T locs cl sl X target k => XS.i2s X.here C.1 rfl (C.d hd) rfl k
theorem OG.ishl (C : OC p s m meth c Z own nm bytes ml ret) {x y : Int32} (hd : decode bytes pc = .ok (.ishl, 1))  (hp : pc + 1 = pc') : OG p l e R s m args below meth c n0 h (mkF m pc ls (.int y :: .int x :: st)) (mkF m pc' ls (.int (x <<< (y &&& 31)) :: st)) := by
  subst hp
  exact OG.of fun s' T locs cl sl X target k => XS.ishl X.here C.1 rfl (C.d hd) rfl k
theorem OG.ishr (C : OC p s m meth c Z own nm bytes ml ret) {x y : Int32} (hd : decode bytes pc = .ok (.ishr, 1))  (hp : pc + 1 = pc') : OG p l e R s m args below meth c n0 h (mkF m pc ls (.int y :: .int x :: st)) (mkF m pc' ls (.int (x >>> (y &&& 31)) :: st)) := by
  subst hp
  exact OG.of fun s' T locs cl sl X target k => XS.ishr X.here C.1 rfl (C.d hd) rfl k
theorem OG.iushr (C : OC p s m meth c Z own nm bytes ml ret) {x y : Int32} (hd : decode bytes pc = .ok (.iushr, 1))  (hp : pc + 1 = pc') : OG p l e R s m args below meth c n0 h (mkF m pc ls (.int y :: .int x :: st)) (mkF m pc' ls (.int (x.toUInt32 >>> (y &&& 31).toUInt32).toInt32 :: st)) := by
  subst hp
  exact OG.of fun s' T locs cl sl X target k => XS.iushr X.here C.1 rfl (C.d hd) rfl k
theorem OG.lshl (C : OC p s m meth c Z own nm bytes ml ret) {x : Int64} {y : Int32} (hd : decode bytes pc = .ok (.lshl, 1))  (hp : pc + 1 = pc') : OG p l e R s m args below meth c n0 h (mkF m pc ls (.int y :: .long x :: st)) (mkF m pc' ls (.long (x <<< (y &&& 0x3f).toInt64) :: st)) := by
  subst hp
  exact OG.of fun s' T locs cl sl X target k => XS.lshl X.here C.1 rfl (C.d hd) rfl k
theorem OG.lshr (C : OC p s m meth c Z own nm bytes ml ret) {x : Int64} {y : Int32} (hd : decode bytes pc = .ok (.lshr, 1))  (hp : pc + 1 = pc') : OG p l e R s m args below meth c n0 h (mkF m pc ls (.int y :: .long x :: st)) (mkF m pc' ls (.long (x >>> (y &&& 0x3f).toInt64) :: st)) := by
  subst hp
  exact OG.of fun s' T locs cl sl X target k => XS.lshr X.here C.1 rfl (C.d hd) rfl k
theorem OG.lushr (C : OC p s m meth c Z own nm bytes ml ret) {x : Int64} {y : Int32} (hd : decode bytes pc = .ok (.lushr, 1))  (hp : pc + 1 = pc') : OG p l e R s m args below meth c n0 h (mkF m pc ls (.int y :: .long x :: st)) (mkF m pc' ls (.long (x.toUInt64 >>> (y &&& 0x3f).toInt64.toUInt64).toInt64 :: st)) := by
  subst hp
  exact OG.of fun s' T locs cl sl X target k => XS.lushr X.here C.1 rfl (C.d hd) rfl k
theorem OG.lcmp (C : OC p s m meth c Z own nm bytes ml ret) {x y : Int64} (hd : decode bytes pc = .ok (.lcmp, 1))  (hp : pc + 1 = pc') : OG p l e R s m args below meth c n0 h (mkF m pc ls (.long y :: .long x :: st)) (mkF m pc' ls (.int (lcmpW x y) :: st)) := by
  subst hp
  exact OG.of fun s' T locs cl sl X target k => XS.lcmp X.here C.1 rfl (C.d hd) rfl k
theorem OG.dup (C : OC p s m meth c Z own nm bytes ml ret) {x : Value} (hd : decode bytes pc = .ok (.dup, 1)) (hc : x.category = 1) (hp : pc + 1 = pc') : OG p l e R s m args below meth c n0 h (mkF m pc ls (x :: st)) (mkF m pc' ls (x :: x :: st)) := by
  subst hp
  exact OG.of fun s' T locs cl sl X target k => XS.dup X.here C.1 rfl (C.d hd) rfl hc k
theorem OG.pop (C : OC p s m meth c Z own nm bytes ml ret) {x : Value} (hd : decode bytes pc = .ok (.pop, 1)) (hc : x.category = 1) (hp : pc + 1 = pc') : OG p l e R s m args below meth c n0 h (mkF m pc ls (x :: st)) (mkF m pc' ls st) := by
  subst hp
  exact OG.of fun s' T locs cl sl X target k => XS.pop X.here C.1 rfl (C.d hd) rfl hc k
theorem OG.iinc (C : OC p s m meth c Z own nm bytes ml ret) {k : Nat} {i : Int} {x z : Int32} (hd : decode bytes pc = .ok (.iinc k i, 3)) (hz : Int32.ofInt i = z) (hl : ls[k]? = some (.val (.int x))) (hl' : storeLocals ls k (.int (x + z)) = some ls') (hp : pc + 3 = pc') : OG p l e R s m args below meth c n0 h (mkF m pc ls st) (mkF m pc' ls' st) := by
  subst hp hz
  exact OG.of fun s' T locs cl sl X target k => XS.iinc X.here C.1 rfl (C.d hd) hl hl' k
theorem OG.goto (C : OC p s m meth c Z own nm bytes ml ret) {o : Int} (hd : decode bytes pc = .ok (.goto o, 3)) (ho : 0 ≤ (pc : Int) + o) (hp : ((pc : Int) + o).toNat = pc') : OG p l e R s m args below meth c n0 h (mkF m pc ls st) (mkF m pc' ls st) := OG.of fun s' T locs cl sl X target k => XS.goto X.here C.1 rfl (pc0 := pc) rfl (C.d hd) ho hp k
theorem OG.ifYes (C : OC p s m meth c Z own nm bytes ml ret) {o : Int} {cd : ClassFile.Cond} {x : Int32} (hd : decode bytes pc = .ok (.ifCond cd o, 3)) (hc : ifCond.holds cd x = true) (ho : 0 ≤ (pc : Int) + o) (hp : ((pc : Int) + o).toNat = pc') : OG p l e R s m args below meth c n0 h (mkF m pc ls (.int x :: st)) (mkF m pc' ls st) := OG.of fun s' T locs cl sl X target k => XS.ifYes X.here C.1 rfl (pc0 := pc) rfl (C.d hd) rfl hc ho hp k
theorem OG.ifNo (C : OC p s m meth c Z own nm bytes ml ret) {o : Int} {cd : ClassFile.Cond} {x : Int32} (hd : decode bytes pc = .ok (.ifCond cd o, 3)) (hc : ifCond.holds cd x = false) (hp : pc + 3 = pc') : OG p l e R s m args below meth c n0 h (mkF m pc ls (.int x :: st)) (mkF m pc' ls st) := by
  subst hp
  exact OG.of fun s' T locs cl sl X target k => XS.ifNo X.here C.1 rfl (C.d hd) rfl hc k
theorem OG.icmpYes (C : OC p s m meth c Z own nm bytes ml ret) {o : Int} {cd : ClassFile.Cond} {x y : Int32} (hd : decode bytes pc = .ok (.if_icmp cd o, 3)) (hc : if_icmp.holds cd x y = true) (ho : 0 ≤ (pc : Int) + o) (hp : ((pc : Int) + o).toNat = pc') : OG p l e R s m args below meth c n0 h (mkF m pc ls (.int y :: .int x :: st)) (mkF m pc' ls st) := OG.of fun s' T locs cl sl X target k => XS.icmpYes X.here C.1 rfl (pc0 := pc) rfl (C.d hd) rfl hc ho hp k
theorem OG.icmpNo (C : OC p s m meth c Z own nm bytes ml ret) {o : Int} {cd : ClassFile.Cond} {x y : Int32} (hd : decode bytes pc = .ok (.if_icmp cd o, 3)) (hc : if_icmp.holds cd x y = false) (hp : pc + 3 = pc') : OG p l e R s m args below meth c n0 h (mkF m pc ls (.int y :: .int x :: st)) (mkF m pc' ls st) := by
  subst hp
  exact OG.of fun s' T locs cl sl X target k => XS.icmpNo X.here C.1 rfl (C.d hd) rfl hc k
theorem OG.ifnullYes (C : OC p s m meth c Z own nm bytes ml ret) {o : Int}  (hd : decode bytes pc = .ok (.ifnull o, 3))  (ho : 0 ≤ (pc : Int) + o) (hp : ((pc : Int) + o).toNat = pc') : OG p l e R s m args below meth c n0 h (mkF m pc ls (.null :: st)) (mkF m pc' ls st) := OG.of fun s' T locs cl sl X target k => XS.ifnullYes X.here C.1 rfl (pc0 := pc) rfl (C.d hd) rfl ho hp k
theorem OG.ifnullNo (C : OC p s m meth c Z own nm bytes ml ret) {o : Int} {b : Addr} (hd : decode bytes pc = .ok (.ifnull o, 3))  (hp : pc + 3 = pc') : OG p l e R s m args below meth c n0 h (mkF m pc ls (.ref b :: st)) (mkF m pc' ls st) := by
  subst hp
  exact OG.of fun s' T locs cl sl X target k => XS.ifnullNo X.here C.1 rfl (C.d hd) rfl k
theorem OG.ifnonnullYes (C : OC p s m meth c Z own nm bytes ml ret) {o : Int} {b : Addr} (hd : decode bytes pc = .ok (.ifnonnull o, 3))  (ho : 0 ≤ (pc : Int) + o) (hp : ((pc : Int) + o).toNat = pc') : OG p l e R s m args below meth c n0 h (mkF m pc ls (.ref b :: st)) (mkF m pc' ls st) := OG.of fun s' T locs cl sl X target k => XS.ifnonnullYes X.here C.1 rfl (pc0 := pc) rfl (C.d hd) rfl ho hp k
theorem OG.ifnonnullNo (C : OC p s m meth c Z own nm bytes ml ret) {o : Int}  (hd : decode bytes pc = .ok (.ifnonnull o, 3))  (hp : pc + 3 = pc') : OG p l e R s m args below meth c n0 h (mkF m pc ls (.null :: st)) (mkF m pc' ls st) := by
  subst hp
  exact OG.of fun s' T locs cl sl X target k => XS.ifnonnullNo X.here C.1 rfl (C.d hd) rfl k
theorem OG.irem (C : OC p s m meth c Z own nm bytes ml ret) {x y : Int32} (hd : decode bytes pc = .ok (.irem, 1)) (hy : y ≠ 0) (hp : pc + 1 = pc') : OG p l e R s m args below meth c n0 h (mkF m pc ls (.int y :: .int x :: st)) (mkF m pc' ls (.int (x % y) :: st)) := by
  subst hp
  refine OG.of fun s' T locs cl sl X target k => XS.irem X.here C.1 rfl (C.d hd) rfl hy ?_
  rw [irem_eq_mod x y]; exact k
theorem OG.lrem (C : OC p s m meth c Z own nm bytes ml ret) {x y : Int64} (hd : decode bytes pc = .ok (.lrem, 1)) (hy : y ≠ 0) (hp : pc + 1 = pc') : OG p l e R s m args below meth c n0 h (mkF m pc ls (.long y :: .long x :: st)) (mkF m pc' ls (.long (x % y) :: st)) := by
  subst hp
  refine OG.of fun s' T locs cl sl X target k => XS.lrem X.here C.1 rfl (C.d hd) rfl hy ?_
  rw [lrem_mod x y]; exact k
theorem OG.acmp (C : OC p s m meth c Z own nm bytes ml ret) {o : Int} {cd : ACond} {x y : Value} {same : Bool} (hd : decode bytes pc = .ok (.if_acmp cd o, 3)) (h1 : x.isRef = true) (h2 : y.isRef = true) (hq : decide (x = y) = same) (ho : 0 ≤ (pc : Int) + o) (hp : pc' = if acV cd same = true then ((pc : Int) + o).toNat else pc + 3) :
    OG p l e R s m args below meth c n0 h (mkF m pc ls (y :: x :: st)) (mkF m pc' ls st) :=
  OG.of fun s' T locs cl sl X target k => RoadKit.acmp X C.1 rfl h1 h2 (pc0 := pc) rfl (C.d hd) rfl hq ho hp k
theorem OG.ldcI (C : OC p s m meth c Z own nm bytes ml ret) {i : Nat} {v : Int32} (w : (Cond.constant own i v).before a0 Z = true) (hd : decode bytes pc = .ok (.ldc i, 2)) (hp : pc + 2 = pc') : OG p l e R s m args below meth c n0 h (mkF m pc ls st) (mkF m pc' ls (.int v :: st)) := by
  subst hp
  rintro T locs cl sl ⟨X, N0, e0, bc, bs⟩
  exact ⟨T, locs, ⟨X, N0, e0, bc, bs⟩, fun target k => X.ldcInt C.1 C.2.2.2.1 (mv C.2.2.1 w) (g := mkF m pc ls st) rfl (C.d hd) target k⟩
theorem OG.ldcL (C : OC p s m meth c Z own nm bytes ml ret) {i : Nat} {v : Int64} (w : (Cond.constantLong own i v).before a0 Z = true) (hd : decode bytes pc = .ok (.ldc2_w i, 3)) (hp : pc + 3 = pc') : OG p l e R s m args below meth c n0 h (mkF m pc ls st) (mkF m pc' ls (.long v :: st)) := by
  subst hp
  rintro T locs cl sl ⟨X, N0, e0, bc, bs⟩
  exact ⟨T, locs, ⟨X, N0, e0, bc, bs⟩, fun target k => X.ldc2Long C.1 C.2.2.2.1 (mv C.2.2.1 w) (g := mkF m pc ls st) rfl (C.d hd) target k⟩
theorem OG.ldcS (C : OC p s m meth c Z own nm bytes ml ret) {i : Nat} {t : String} {a : Addr} (w : (Cond.stringRef own i t).before a0 Z = true) (F : Lit Z own i a) (hd : decode bytes pc = .ok (.ldc i, 2)) (hp : pc + 2 = pc') : OG p l e R s m args below meth c n0 h (mkF m pc ls st) (mkF m pc' ls (.ref a :: st)) := by
  subst hp
  rintro T locs cl sl ⟨X, N0, e0, bc, bs⟩
  exact ⟨T, locs, ⟨X, N0, e0, bc, bs⟩, fun target k => ldcR X C.1 C.2.2.1 C.2.2.2.1 w F (g := mkF m pc ls st) rfl (C.d hd) target k⟩
theorem OG.getF (C : OC p s m meth c Z own nm bytes ml ret) {R0 O n d host : String} {i : Nat} {a : Addr} {v : Value} (w : (Cond.fieldLink own i R0 n d).before a0 Z = true ∨ (Cond.fieldLinkNest own i R0 n d host).before a0 Z = true) (via : Via Z R0 O n d) (F : Fld Z h a O n d v) (hd : decode bytes pc = .ok (.getfield i, 3)) (hp : pc + 3 = pc') :
    OG p l e R s m args below meth c n0 h (mkF m pc ls (.ref a :: st)) (mkF m pc' ls (v :: st)) := by
  subst hp
  rintro T locs cl sl ⟨X, N0, e0, bc, bs⟩
  obtain ⟨T', X', e', k⟩ := RoadKit.getF X C.1 C.2.2.1 C.2.2.2.1 w via e0 F (g := mkF m pc ls (.ref a :: st)) rfl rfl (C.d hd)
  exact ⟨T', locs, ⟨X', N0, e', bc, bs⟩, k⟩
theorem OG.getS (C : OC p s m meth c Z own nm bytes ml ret) {R0 O n d host : String} {i : Nat} {v : Value} (w : (Cond.fieldLink own i R0 n d).before a0 Z = true ∨ (Cond.fieldLinkNest own i R0 n d host).before a0 Z = true) (via : Via Z R0 O n d) (F : Sta Z h O n d v) (hd : decode bytes pc = .ok (.getstatic i, 3)) (hp : pc + 3 = pc') :
    OG p l e R s m args below meth c n0 h (mkF m pc ls st) (mkF m pc' ls (v :: st)) := by
  subst hp
  rintro T locs cl sl ⟨X, N0, e0, bc, bs⟩
  obtain ⟨T', X', e', k⟩ := getS2 X C.1 C.2.2.1 C.2.2.2.1 w via e0 F (g := mkF m pc ls st) rfl (C.d hd)
  exact ⟨T', locs, ⟨X', N0, e', bc, bs⟩, k⟩
/-- an array and what stands in it -/
def OA (Z : State) (h : Heap) (a : Addr) (ty : FieldType) (vs : List Value) : Prop := ∃ c : Cell, Arr Z h a c ty ∧ c.slots.toList = vs
theorem OA.lt {a : Addr} {ty : FieldType} {vs : List Value} (A : OA Z h a ty vs) : a < h.size := by obtain ⟨c, A, -⟩ := A; exact A.lt
theorem OA.ext {h' : Heap} {a : Addr} {ty : FieldType} {vs : List Value} (A : OA Z h a ty vs) (E : Ext h h') : OA Z h' a ty vs := by obtain ⟨c, A, r⟩ := A; exact ⟨c, A.ext E, r⟩
theorem OA.other {h' : Heap} {a b : Addr} {k : Nat} {v : Value} {ty : FieldType} {vs : List Value} (A : OA Z h a ty vs) (W : Wr h h' b k v) (q : a ≠ b) : OA Z h' a ty vs := by obtain ⟨c, A, r⟩ := A; exact ⟨c, A.other W q, r⟩
theorem OA.same {h' : Heap} {a : Addr} {k : Nat} {v : Value} {ty : FieldType} {vs : List Value} (A : OA Z h a ty vs) (W : Wr h h' a k v) : OA Z h' a ty (vs.set k v) := by
  obtain ⟨c, A, r⟩ := A
  exact ⟨_, A.same W, by subst r; simp [Cell.setSlot]⟩
theorem OA.keep {h' : Heap} {a : Addr} {ws : List Addr} {ty : FieldType} {vs : List Value} (A : OA Z h a ty vs) (W : Keep h h' ws) (q : a ∉ ws) : OA Z h' a ty vs := by obtain ⟨c, A, r⟩ := A; exact ⟨c, ⟨W.2.1 a c A.1 q, A.2⟩, r⟩
theorem OA.inb {c : Cell} {vs : List Value} {j : Int32} (r : c.slots.toList = vs) (q : 0 ≤ j.toInt ∧ j.toInt < vs.length) : ¬ (j < 0 ∨ c.slots.size ≤ j.toNatClampNeg) := by
  have : c.slots.size = vs.length := by rw [← r]; simp
  rw [Int32.lt_iff_toInt_lt, Int32.toNatClampNeg]
  simp only [Int32.reduceToInt]; omega
theorem own_ib {j : Int32} {vs : List Value} {n : Nat} (q : vs.length = n) (r : 0 ≤ j.toInt ∧ j.toInt < (n : Int)) : 0 ≤ j.toInt ∧ j.toInt < vs.length := by rw [q]; exact r
theorem OA.new {k : ClassId} {a : Addr} {ty : FieldType} {z : Int32} {n : Nat} (A : Arr Z h a (newA k ty z) ty) (q : z.toNatClampNeg = n) : OA Z h a ty (List.replicate n (defaultValue ty)) := ⟨_, A, by subst q; simp [newA]⟩
theorem OG.laload (C : OC p s m meth c Z own nm bytes ml ret) {a : Addr} {j : Int32} {vs : List Value} {v : Value} (F : OA Z h a .long vs) (q : 0 ≤ j.toInt ∧ j.toInt < vs.length) (hv : vs[j.toNatClampNeg]? = some v) (hd : decode bytes pc = .ok (.laload, 1)) (hp : pc + 1 = pc') :
    OG p l e R s m args below meth c n0 h (mkF m pc ls (.int j :: .ref a :: st)) (mkF m pc' ls (v :: st)) := by
  subst hp
  rintro T locs cl sl ⟨X, N0, e0, bc, bs⟩
  obtain ⟨cc, A, r⟩ := F
  exact ⟨T, locs, ⟨X, N0, e0, bc, bs⟩, X.laload C.1 (by rw [e0]; exact A.1) (State.isArrayOf_alike C.2.2.1.alike A.2.1) A.2.2 (OA.inb r q) (by rw [← r] at hv; simpa using hv) (g := mkF m pc ls (.int j :: .ref a :: st)) rfl rfl (C.d hd)⟩
theorem OG.iaload (C : OC p s m meth c Z own nm bytes ml ret) {a : Addr} {j : Int32} {vs : List Value} {v : Value} (F : OA Z h a .int vs) (q : 0 ≤ j.toInt ∧ j.toInt < vs.length) (hv : vs[j.toNatClampNeg]? = some v) (hd : decode bytes pc = .ok (.iaload, 1)) (hp : pc + 1 = pc') :
    OG p l e R s m args below meth c n0 h (mkF m pc ls (.int j :: .ref a :: st)) (mkF m pc' ls (v :: st)) := by
  subst hp
  rintro T locs cl sl ⟨X, N0, e0, bc, bs⟩
  obtain ⟨cc, A, r⟩ := F
  exact ⟨T, locs, ⟨X, N0, e0, bc, bs⟩, X.iaload C.1 (by rw [e0]; exact A.1) (State.isArrayOf_alike C.2.2.1.alike A.2.1) A.2.2 (OA.inb r q) (by rw [← r] at hv; simpa using hv) (g := mkF m pc ls (.int j :: .ref a :: st)) rfl rfl (C.d hd)⟩
theorem OG.caload (C : OC p s m meth c Z own nm bytes ml ret) {a : Addr} {j : Int32} {vs : List Value} {v : Value} (F : OA Z h a .char vs) (q : 0 ≤ j.toInt ∧ j.toInt < vs.length) (hv : vs[j.toNatClampNeg]? = some v) (hd : decode bytes pc = .ok (.caload, 1)) (hp : pc + 1 = pc') :
    OG p l e R s m args below meth c n0 h (mkF m pc ls (.int j :: .ref a :: st)) (mkF m pc' ls (v :: st)) := by
  subst hp
  rintro T locs cl sl ⟨X, N0, e0, bc, bs⟩
  obtain ⟨cc, A, r⟩ := F
  exact ⟨T, locs, ⟨X, N0, e0, bc, bs⟩, X.caload C.1 (by rw [e0]; exact A.1) (State.isArrayOf_alike C.2.2.1.alike A.2.1) A.2.2 (OA.inb r q) (by rw [← r] at hv; simpa using hv) (g := mkF m pc ls (.int j :: .ref a :: st)) rfl rfl (C.d hd)⟩
theorem OG.baload (C : OC p s m meth c Z own nm bytes ml ret) {a : Addr} {j : Int32} {vs : List Value} {v : Value} (F : OA Z h a .byte vs) (q : 0 ≤ j.toInt ∧ j.toInt < vs.length) (hv : vs[j.toNatClampNeg]? = some v) (hd : decode bytes pc = .ok (.baload, 1)) (hp : pc + 1 = pc') :
    OG p l e R s m args below meth c n0 h (mkF m pc ls (.int j :: .ref a :: st)) (mkF m pc' ls (v :: st)) := by
  subst hp
  rintro T locs cl sl ⟨X, N0, e0, bc, bs⟩
  obtain ⟨cc, A, r⟩ := F
  exact ⟨T, locs, ⟨X, N0, e0, bc, bs⟩, X.baloadBytes C.1 (by rw [e0]; exact A.1) (State.isArrayOf_alike C.2.2.1.alike A.2.1) A.2.2 (OA.inb r q) (by rw [← r] at hv; simpa using hv) (g := mkF m pc ls (.int j :: .ref a :: st)) rfl rfl (C.d hd)⟩
theorem OG.aaload (C : OC p s m meth c Z own nm bytes ml ret) {a : Addr} {j : Int32} {ty : FieldType} {vs : List Value} {v : Value} (F : OA Z h a ty vs) (ht : ty.isReference = true) (q : 0 ≤ j.toInt ∧ j.toInt < vs.length) (hv : vs[j.toNatClampNeg]? = some v) (hd : decode bytes pc = .ok (.aaload, 1)) (hp : pc + 1 = pc') :
    OG p l e R s m args below meth c n0 h (mkF m pc ls (.int j :: .ref a :: st)) (mkF m pc' ls (v :: st)) := by
  subst hp
  rintro T locs cl sl ⟨X, N0, e0, bc, bs⟩
  obtain ⟨cc, A, r⟩ := F
  exact ⟨T, locs, ⟨X, N0, e0, bc, bs⟩, X.aaload C.1 (by rw [e0]; exact A.1) (State.isArrayOf_alike C.2.2.1.alike A.2.1) ht A.2.2 (OA.inb r q) (by rw [← r] at hv; simpa using hv) (g := mkF m pc ls (.int j :: .ref a :: st)) rfl rfl (C.d hd)⟩
theorem OG.arraylength (C : OC p s m meth c Z own nm bytes ml ret) {a : Addr} {ty : FieldType} {vs : List Value} {z : Int32} (F : OA Z h a ty vs) (hz : vs.length.toInt32 = z) (hd : decode bytes pc = .ok (.arraylength, 1)) (hp : pc + 1 = pc') :
    OG p l e R s m args below meth c n0 h (mkF m pc ls (.ref a :: st)) (mkF m pc' ls (.int z :: st)) := by
  subst hp hz
  rintro T locs cl sl ⟨X, N0, e0, bc, bs⟩
  obtain ⟨cc, A, r⟩ := F
  refine ⟨T, locs, ⟨X, N0, e0, bc, bs⟩, fun t k => X.arraylength C.1 (by rw [e0]; exact A.1) (State.isArrayOf_alike C.2.2.1.alike A.2.1) (g := mkF m pc ls (.ref a :: st)) rfl rfl (C.d hd) t ?_⟩
  have : cc.slots.size = vs.length := by rw [← r]; simp
  rw [this]; exact k
/-! returns -/
theorem OW.retI (C : OC p s m meth c Z own nm bytes ml (some .int)) {z : Int32} (hd : decode bytes pc = .ok (.ireturn, 1)) (hK : cl ≤ K) (hN : sl ≤ N) (hQ : Q (some (.int z)) h) : OW p l e R s m args below meth c n0 Q K N h cl sl (mkF m pc ls (.int z :: st)) := fun T locs ⟨X, N0, e0, bc, bs⟩ => by
  obtain ⟨fs, hr, hrun, hended, hW, hsame⟩ := X.leave (v := some (.int z)) (fun q => by rw [C.2.2.2.2.2.1] at q; cases q) C.2.2.2.2.2.2.1
  exact ⟨_, _, retOut X C.1 C.2.2.2.2.2.1 rfl (Or.inl ⟨rfl, Or.inl rfl, z, rfl⟩) (C.d hd) hr, hrun, hended, _, locs, rfl, ⟨by show Q _ T.heap; rw [e0]; exact hQ, N0⟩, ⟨_, rfl⟩, hW, hsame.mono hK hN⟩
theorem OW.retN {t : FieldType} (C : OC p s m meth c Z own nm bytes ml (some t)) {z : Int32} (ht : t = .boolean ∨ t = .byte ∨ t = .char ∨ t = .short) (hd : decode bytes pc = .ok (.ireturn, 1)) (hK : cl ≤ K) (hN : sl ≤ N) (hQ : Q (some (.int (nar t z))) h) : OW p l e R s m args below meth c n0 Q K N h cl sl (mkF m pc ls (.int z :: st)) := fun T locs ⟨X, N0, e0, bc, bs⟩ => by
  obtain ⟨fs, hr, hrun, hended, hW, hsame⟩ := X.leave (v := some (.int (nar t z))) (fun q => by rw [C.2.2.2.2.2.1] at q; cases q) C.2.2.2.2.2.2.1
  exact ⟨_, _, RoadKit.retN X C.1 C.2.2.2.2.2.1 ht (C.d hd) hr, hrun, hended, _, locs, rfl, ⟨by show Q _ T.heap; rw [e0]; exact hQ, N0⟩, ⟨_, rfl⟩, hW, hsame.mono hK hN⟩
theorem OW.retL (C : OC p s m meth c Z own nm bytes ml (some .long)) {z : Int64} (hd : decode bytes pc = .ok (.lreturn, 1)) (hK : cl ≤ K) (hN : sl ≤ N) (hQ : Q (some (.long z)) h) : OW p l e R s m args below meth c n0 Q K N h cl sl (mkF m pc ls (.long z :: st)) := fun T locs ⟨X, N0, e0, bc, bs⟩ => by
  obtain ⟨fs, hr, hrun, hended, hW, hsame⟩ := X.leave (v := some (.long z)) (fun q => by rw [C.2.2.2.2.2.1] at q; cases q) C.2.2.2.2.2.2.1
  exact ⟨_, _, retOut X C.1 C.2.2.2.2.2.1 rfl (Or.inr (Or.inl ⟨rfl, rfl, z, rfl⟩)) (C.d hd) hr, hrun, hended, _, locs, rfl, ⟨by show Q _ T.heap; rw [e0]; exact hQ, N0⟩, ⟨_, rfl⟩, hW, hsame.mono hK hN⟩
theorem OW.retA {t : FieldType} (C : OC p s m meth c Z own nm bytes ml (some t)) {v : Value} (ht : t.isReference = true) (hv : v.isRef = true) (hd : decode bytes pc = .ok (.areturn, 1)) (hK : cl ≤ K) (hN : sl ≤ N) (hQ : Q (some v) h) : OW p l e R s m args below meth c n0 Q K N h cl sl (mkF m pc ls (v :: st)) := fun T locs ⟨X, N0, e0, bc, bs⟩ => by
  have hn : narrow t v = v := by cases t <;> first | (cases ht; done) | (cases v <;> rfl)
  obtain ⟨fs, hr, hrun, hended, hW, hsame⟩ := X.leave (v := some v) (fun q => by rw [C.2.2.2.2.2.1] at q; cases q) C.2.2.2.2.2.2.1
  exact ⟨_, _, retOut X C.1 C.2.2.2.2.2.1 hn (Or.inr (Or.inr (Or.inr (Or.inr ⟨rfl, ht, hv⟩)))) (C.d hd) hr, hrun, hended, _, locs, rfl, ⟨by show Q _ T.heap; rw [e0]; exact hQ, N0⟩, ⟨_, rfl⟩, hW, hsame.mono hK hN⟩
theorem OW.retV (C : OC p s m meth c Z own nm bytes ml none) (hd : decode bytes pc = .ok (.return_, 1)) (hK : cl ≤ K) (hN : sl ≤ N) (hQ : Q none h) : OW p l e R s m args below meth c n0 Q K N h cl sl (mkF m pc ls []) := fun T locs ⟨X, N0, e0, bc, bs⟩ => by
  obtain ⟨fs, hr, hrun, hended, hW, hsame⟩ := X.leave (v := none) (fun _ => rfl) C.2.2.2.2.2.2.1
  exact ⟨_, _, X.returnOut C.1 C.2.2.2.2.2.1 (C.d hd) hr, hrun, hended, _, locs, rfl, ⟨by show Q _ T.heap; rw [e0]; exact hQ, N0⟩, ⟨_, rfl⟩, hW, hsame.mono hK hN⟩
/-! the heap: new, putfield, arrays -/
theorem OW.putF (C : OC p s m meth c Z own nm bytes ml ret) {R0 O n d host Cl : String} {i kk : Nat} {ty : FieldType} {a : Addr} {v old : Value} (w : (Cond.fieldLink own i R0 n d).before a0 Z = true ∨ (Cond.fieldLinkNest own i R0 n d host).before a0 Z = true) (via : Via Z R0 O n d) (F : Fld Z h a O n d old) (E : Exa Z h a Cl)
    (L : (Cond.lays Cl O n d).before a0 Z = true ∨ ((Cond.laysFinal Cl O n d).before a0 Z = true ∧ own = O ∧ nm = "<init>")) (wi : (Cond.instantiable Cl kk).before a0 Z = true) (hty : parseFieldDescriptor d = some ty) (hn : narrow ty v = v) (hf : fits ty v = true) (hna : n0 ≤ a) (hd : decode bytes pc = .ok (.putfield i, 3)) (hp : pc + 3 = pc')
    (k : ∀ h', Wr h h' a (slotOf Z O n d) v → OW p l e R s m args below meth c n0 Q K N h' cl sl (mkF m pc' ls st)) : OW p l e R s m args below meth c n0 Q K N h cl sl (mkF m pc ls (v :: .ref a :: st)) := fun T locs ⟨X, N0, e0, bc, bs⟩ => by
  subst hp
  obtain ⟨T', h', X', e', W, kk⟩ := RoadKit.putF X C.1 C.2.2.1 C.2.2.2.1 w via e0 F E (L.imp id fun q => ⟨q.1, q.2.1, C.2.2.2.2.2.2.2.trans q.2.2⟩) wi hty hn hf (g := mkF m pc ls (v :: .ref a :: st)) rfl rfl (C.d hd)
  obtain ⟨s₂, o, q, r⟩ := k h' W T' _ ⟨X', Fr.snoc X' N0 hna, e', bc, bs⟩
  exact ⟨s₂, o, kk _ q, r⟩
theorem OW.newO (C : OC p s m meth c Z own nm bytes ml ret) {Cl : String} {i nn : Nat} (w : (Cond.classLink own i Cl).before a0 Z = true) (wi : (Cond.instantiable Cl nn).before a0 Z = true) (wz : (Cond.initialized Cl).before a0 Z = true) (hd : decode bytes pc = .ok (.new i, 3)) (hc : cl + 1 ≤ R.cells) (hl : sl + nn ≤ R.slots) (hp : pc + 3 = pc')
    (k : ∀ (a : Addr) h', h.size = a → Ext h h' → Exa Z h' a Cl → (∀ {O nm d : String} {ty : FieldType}, Laid Z a0 Cl O nm d → parseFieldDescriptor d = some ty → Fld Z h' a O nm d (defaultValue ty)) → OW p l e R s m args below meth c n0 Q K N h' (cl + 1) (sl + nn) (mkF m pc' ls (.ref a :: st))) : OW p l e R s m args below meth c n0 Q K N h cl sl (mkF m pc ls st) := fun T locs ⟨X, N0, e0, bc, bs⟩ => by
  subst hp
  obtain ⟨T', h', X', e', E, A, D, -, kk⟩ := RoadKit.newO X C.1 C.2.2.1 C.2.2.2.1 w wi wz e0 (g := mkF m pc ls st) rfl (C.d hd) hc hl
  obtain ⟨s₂, o, q, r⟩ := k _ h' rfl E A D T' _ ⟨X', N0, e', hc, hl⟩
  exact ⟨s₂, o, kk _ q, r⟩
theorem OW.newP (C : OC p s m meth c Z own nm bytes ml ret) {aty : ArrayType} {n : Int32} {cap : Nat} {ty : FieldType} (hty : newarray.typeOf aty = ty) (w : (Cond.arrayClass ty).before a0 Z = true) (hn : ¬ n < 0) (hcap : n.toNatClampNeg = cap) (hb : cap * 8 ≤ 536870912) (hd : decode bytes pc = .ok (.newarray aty, 2)) (hc : cl + 1 ≤ R.cells) (hl : sl + cap ≤ R.slots) (hp : pc + 2 = pc')
    (k : ∀ (a : Addr) h', h.size = a → Ext h h' → OA Z h' a ty (List.replicate cap (defaultValue ty)) → OW p l e R s m args below meth c n0 Q K N h' (cl + 1) (sl + cap) (mkF m pc' ls (.ref a :: st))) : OW p l e R s m args below meth c n0 Q K N h cl sl (mkF m pc ls (.int n :: st)) := fun T locs ⟨X, N0, e0, bc, bs⟩ => by
  subst hp hty
  obtain ⟨T', h', cA, X', e', E, A, kk⟩ := RoadKit.newP X C.1 C.2.2.1 w e0 (g := mkF m pc ls (.int n :: st)) rfl (C.d hd) rfl hn (Nat.le_of_eq hcap) hb hc hl
  obtain ⟨s₂, o, q, r⟩ := k _ h' rfl E (OA.new A hcap) T' _ ⟨X', N0, e', hc, hl⟩
  exact ⟨s₂, o, kk _ q, r⟩
theorem OW.lastore (C : OC p s m meth c Z own nm bytes ml ret) {a : Addr} {j : Int32} {x : Int64} {vs : List Value} (F : OA Z h a .long vs) (q : 0 ≤ j.toInt ∧ j.toInt < vs.length) (hna : n0 ≤ a) (hd : decode bytes pc = .ok (.lastore, 1)) (hp : pc + 1 = pc')
    (k : ∀ h', Wr h h' a j.toNatClampNeg (.long x) → OW p l e R s m args below meth c n0 Q K N h' cl sl (mkF m pc' ls st)) : OW p l e R s m args below meth c n0 Q K N h cl sl (mkF m pc ls (.long x :: .int j :: .ref a :: st)) := fun T locs ⟨X, N0, e0, bc, bs⟩ => by
  subst hp
  obtain ⟨cc, A, r⟩ := F
  obtain ⟨T', h', X', e', W, kk⟩ := stJ X C.1 C.2.2.1 e0 A (OA.inb r q) (g := mkF m pc ls (.long x :: .int j :: .ref a :: st)) rfl rfl (C.d hd)
  obtain ⟨s₂, o, q, r⟩ := k h' W T' _ ⟨X', Fr.snoc X' N0 hna, e', bc, bs⟩
  exact ⟨s₂, o, kk _ q, r⟩
theorem OW.iastore (C : OC p s m meth c Z own nm bytes ml ret) {a : Addr} {j x : Int32} {vs : List Value} (F : OA Z h a .int vs) (q : 0 ≤ j.toInt ∧ j.toInt < vs.length) (hna : n0 ≤ a) (hd : decode bytes pc = .ok (.iastore, 1)) (hp : pc + 1 = pc')
    (k : ∀ h', Wr h h' a j.toNatClampNeg (.int x) → OW p l e R s m args below meth c n0 Q K N h' cl sl (mkF m pc' ls st)) : OW p l e R s m args below meth c n0 Q K N h cl sl (mkF m pc ls (.int x :: .int j :: .ref a :: st)) := fun T locs ⟨X, N0, e0, bc, bs⟩ => by
  subst hp
  obtain ⟨cc, A, r⟩ := F
  obtain ⟨T', h', X', e', W, kk⟩ := stI X C.1 C.2.2.1 e0 A (OA.inb r q) (g := mkF m pc ls (.int x :: .int j :: .ref a :: st)) rfl rfl (C.d hd)
  obtain ⟨s₂, o, q, r⟩ := k h' W T' _ ⟨X', Fr.snoc X' N0 hna, e', bc, bs⟩
  exact ⟨s₂, o, kk _ q, r⟩
theorem OW.bastore (C : OC p s m meth c Z own nm bytes ml ret) {a : Addr} {j x : Int32} {vs : List Value} (F : OA Z h a .byte vs) (q : 0 ≤ j.toInt ∧ j.toInt < vs.length) (hna : n0 ≤ a) (hd : decode bytes pc = .ok (.bastore, 1)) (hp : pc + 1 = pc')
    (k : ∀ h', Wr h h' a j.toNatClampNeg (.int (nar .byte x)) → OW p l e R s m args below meth c n0 Q K N h' cl sl (mkF m pc' ls st)) : OW p l e R s m args below meth c n0 Q K N h cl sl (mkF m pc ls (.int x :: .int j :: .ref a :: st)) := fun T locs ⟨X, N0, e0, bc, bs⟩ => by
  subst hp
  obtain ⟨cc, A, r⟩ := F
  obtain ⟨T', h', X', e', W, kk⟩ := stB X C.1 C.2.2.1 e0 A (OA.inb r q) (g := mkF m pc ls (.int x :: .int j :: .ref a :: st)) rfl rfl (C.d hd)
  obtain ⟨s₂, o, q, r⟩ := k h' W T' _ ⟨X', Fr.snoc X' N0 hna, e', bc, bs⟩
  exact ⟨s₂, o, kk _ q, r⟩
theorem OW.castore (C : OC p s m meth c Z own nm bytes ml ret) {a : Addr} {j x : Int32} {vs : List Value} (F : OA Z h a .char vs) (q : 0 ≤ j.toInt ∧ j.toInt < vs.length) (hna : n0 ≤ a) (hd : decode bytes pc = .ok (.castore, 1)) (hp : pc + 1 = pc')
    (k : ∀ h', Wr h h' a j.toNatClampNeg (.int (nar .char x)) → OW p l e R s m args below meth c n0 Q K N h' cl sl (mkF m pc' ls st)) : OW p l e R s m args below meth c n0 Q K N h cl sl (mkF m pc ls (.int x :: .int j :: .ref a :: st)) := fun T locs ⟨X, N0, e0, bc, bs⟩ => by
  subst hp
  obtain ⟨cc, A, r⟩ := F
  obtain ⟨T', h', X', e', W, kk⟩ := stC X C.1 C.2.2.1 e0 A (OA.inb r q) (g := mkF m pc ls (.int x :: .int j :: .ref a :: st)) rfl rfl (C.d hd)
  obtain ⟨s₂, o, q, r⟩ := k h' W T' _ ⟨X', Fr.snoc X' N0 hna, e', bc, bs⟩
  exact ⟨s₂, o, kk _ q, r⟩
theorem OG.initO (C : OC p s m meth c Z own nm bytes ml ret) {i W : Nat} {a : Addr} (w1 : (Cond.methodLink own i Lib.objectInit).before a0 Z = true) (w2 : (Cond.instanceMethod Lib.objectInit).before a0 Z = true) (w3 : (Cond.code Lib.objectInit ⟨#[0xb1]⟩ 1 none).before a0 Z = true) (hd : decode bytes pc = .ok (.invokespecial i, 3)) (hsz : ls.size = ml) (hf : 1 ≤ R.frames) (hW : (st.map fun v => v.category).sum = W) (hl : W + 12 ≤ R.locals) (hp : pc + 3 = pc') :
    OG p l e R s m args below meth c n0 h (mkF m pc ls (.ref a :: st)) (mkF m pc' ls st) := by
  subst hp
  rintro T locs cl sl ⟨X, N0, e0, bc, bs⟩
  obtain ⟨T', X', e', k⟩ := RoadKit.initO X C.1 C.2.2.1 C.2.2.2.1 w1 w2 w3 e0 (g := mkF m pc ls (.ref a :: st)) rfl (by rw [C.2.2.2.2.1]; exact hsz) rfl (C.d hd) hf (W := W) (by show 2 * 0 + _ ≤ _; omega) hl
  exact ⟨T', locs, ⟨X', N0, e', bc, bs⟩, k⟩
/-! contracts and calls -/
def OM (l : Launch) (Z : State) (y : MethodName) (bytes : ByteArray) (ml : Nat) (ret : Option FieldType) (rm : Room) (n0 : Nat) (h : Heap) (as' : Array Value) (Q : Option Value → Heap → Prop) (K N : Nat) : Prop :=
  ∀ ws : List Cond, MetFree l y (head1 (Cond.code y bytes ml ret :: ws) rm) (fun a U => a = as' ∧ Z.Warmed39 U.vm ∧ U.heap = h) (fun _ _ _ _ _ => True) (fun _ U o U' => ∃ v L, o = .returned v ∧ (Q v U'.heap ∧ Fr n0 L) ∧ FrameEnd U o U' L K N)
theorem OM.of_body {y : MethodName} {rm : Room} {as' : Array Value} (hy : plainFor y = true) (hef : ∀ m, entryFrame m as' ml = mkF m 0 ls [])
    (body : ∀ (p : Program) (e : Env) (s : State) (m : MethodId) (below : List Frame) (meth : Method) (c : Code), OC p s m meth c Z y.cls y.name bytes ml ret → OW p l e rm s m as' below meth c n0 Q K N h 0 0 (mkF m 0 ls [])) : OM l Z y bytes ml ret rm n0 h as' Q K N := by
  intro ws
  refine MetFree.of_bodySF hy hisR ?_
  intro p e s m args below meth c s₁ Bd hml0 hP hK
  obtain ⟨rfl, hZ, hh⟩ := hP
  have e0 : s₁.heap = h := by rw [← hh, Bd.state]; rfl
  have X0 : Stand p l e rm s m args below meth c s₁ [] 0 0 := Stand.of_body Bd
  rw [hef m]
  exact body p e s m below meth c ⟨Bd.exec, Bd.bytes, hZ, findClass_of_methodNamed Bd.named, hml0, Bd.returns, Bd.notSynchronized, (name_of_methodNamed Bd.named Bd.method).1⟩ s₁ [] ⟨X0, Fr.nil n0, e0, Nat.zero_le _, Nat.zero_le _⟩
theorem OW.callS (C : OC p s m meth c Z own nm bytes ml ret) {i : Nat} {y : MethodName} {bytes' : ByteArray} {ml' W : Nat} {ret' r0 : Option FieldType} {rm : Room} {argsL rest : List Value} {ps : List FieldType} {Q' : Option Value → Heap → Prop}
    (w1 : (Cond.methodLink own i y).before a0 Z = true) (w2 : (Cond.static y).before a0 Z = true) (w3 : (Cond.initialized y.cls).before a0 Z = true) (w4 : (Cond.code y bytes' ml' ret').before a0 Z = true) (hy : y.cls ≠ "java/lang/invoke/MethodHandle" ∧ y.cls ≠ "java/lang/invoke/VarHandle")
    (hM : OM l Z y bytes' ml' ret' rm n0 h argsL.toArray Q' rm.cells rm.slots) (hd : decode bytes pc = .ok (.invokestatic i, 3)) (hpd : parseMethodDescriptor y.desc = some ⟨ps, r0⟩) (hlen : argsL.length = ps.length) (hst : st = argsL.reverse ++ rest) (hsz : ls.size = ml) (hW : (rest.map fun v => v.category).sum = W)
    (hf : rm.frames + 1 ≤ R.frames) (hlo : W + (ml' + 11) + rm.locals ≤ R.locals) (hcl : cl + rm.cells ≤ R.cells) (hsl : sl + rm.slots ≤ R.slots) (hp : pc + 3 = pc')
    (k : ∀ v h', Q' v h' → OW p l e R s m args below meth c n0 Q K N h' (cl + rm.cells) (sl + rm.slots) (mkF m pc' ls (v.toList ++ rest))) : OW p l e R s m args below meth c n0 Q K N h cl sl (mkF m pc ls st) := fun T locs ⟨X, N0, e0, bc, bs⟩ => by
  subst hp
  obtain ⟨v, vm, ⟨T', L', cl', sl'⟩, -, X', ⟨Lc, ⟨hQ, hL⟩, e1, e2, e3⟩, kk⟩ := Jvm.LawKit.callS X C.1 C.2.2.2.1 (mv C.2.2.1 w1) (mv C.2.2.1 w2) (mv C.2.2.1 w3) (mv C.2.2.1 w4) hy (backOf (W := W) (Q := fun v h L => Q' v h ∧ Fr n0 L) (hM []) C.2.2.1 w4 w3 hf hlo) (g := mkF m pc ls st) rfl (by rw [C.2.2.2.2.1]; exact hsz) (argsL := argsL) (rest := rest) (lenOf hpd hlen) hst (by show 2 * 0 + _ ≤ _; omega) (C.d hd) (fun _ _ => ⟨rfl, e0, hcl, hsl⟩)
  dsimp only [Pt.U, Pt.locs, Pt.cells, Pt.slots] at X' e1 e2 e3 kk hQ
  subst e1 e2 e3
  obtain ⟨s₂, o, q, r⟩ := k v _ hQ T' _ ⟨X', Fr.app N0 hL, rfl, hcl, hsl⟩
  exact ⟨s₂, o, kk _ q, r⟩
theorem OG.callS (C : OC p s m meth c Z own nm bytes ml ret) {i : Nat} {y : MethodName} {bytes' : ByteArray} {ml' W fr lo : Nat} {ret' r0 : Option FieldType} {argsL rest : List Value} {ps : List FieldType} {w : Value}
    (w1 : (Cond.methodLink own i y).before a0 Z = true) (w2 : (Cond.static y).before a0 Z = true) (w3 : (Cond.initialized y.cls).before a0 Z = true) (w4 : (Cond.code y bytes' ml' ret').before a0 Z = true) (hy : y.cls ≠ "java/lang/invoke/MethodHandle" ∧ y.cls ≠ "java/lang/invoke/VarHandle")
    (hM : OM l Z y bytes' ml' ret' ⟨fr, 0, 0, lo⟩ n0 h argsL.toArray (fun v h' => v = some w ∧ h' = h) 0 0) (hd : decode bytes pc = .ok (.invokestatic i, 3)) (hpd : parseMethodDescriptor y.desc = some ⟨ps, r0⟩) (hlen : argsL.length = ps.length) (hst : st = argsL.reverse ++ rest) (hsz : ls.size = ml) (hW : (rest.map fun v => v.category).sum = W)
    (hf : fr + 1 ≤ R.frames) (hlo : W + (ml' + 11) + lo ≤ R.locals) (hp : pc + 3 = pc') :
    OG p l e R s m args below meth c n0 h (mkF m pc ls st) (mkF m pc' ls (w :: rest)) := fun T locs cl sl ⟨X, N0, e0, bc, bs⟩ => by
  subst hp
  obtain ⟨v, vm, ⟨T', L', cl', sl'⟩, -, X', ⟨Lc, ⟨⟨rfl, hQ⟩, hL⟩, e1, e2, e3⟩, kk⟩ := Jvm.LawKit.callS X C.1 C.2.2.2.1 (mv C.2.2.1 w1) (mv C.2.2.1 w2) (mv C.2.2.1 w3) (mv C.2.2.1 w4) hy (backOf (W := W) (Q := fun v h' L => (v = some w ∧ h' = h) ∧ Fr n0 L) (hM []) C.2.2.1 w4 w3 hf hlo) (g := mkF m pc ls st) rfl (by rw [C.2.2.2.2.1]; exact hsz) (argsL := argsL) (rest := rest) (lenOf hpd hlen) hst (by show 2 * 0 + _ ≤ _; omega) (C.d hd) (fun _ _ => ⟨rfl, e0, bc, bs⟩)
  dsimp only [Pt.U, Pt.locs, Pt.cells, Pt.slots] at X' e1 e2 e3 kk hQ
  subst e1 e2 e3
  exact ⟨T', _, ⟨X', Fr.app N0 hL, hQ, bc, bs⟩, kk⟩
theorem OW.init (C : OC p s m meth c Z own nm bytes ml ret) {i : Nat} {y : MethodName} {bytes' : ByteArray} {ml' W : Nat} {r0 : Option FieldType} {rm : Room} {argsL rest : List Value} {ps : List FieldType} {Q' : Option Value → Heap → Prop} {a : Addr}
    (w1 : (Cond.methodLink own i y).before a0 Z = true) (w2 : (Cond.instanceMethod y).before a0 Z = true) (w3 : (Cond.initialized y.cls).before a0 Z = true) (w4 : (Cond.code y bytes' ml' none).before a0 Z = true) (hyi : y.name = "<init>") (hy : y.cls ≠ "java/lang/invoke/MethodHandle" ∧ y.cls ≠ "java/lang/invoke/VarHandle")
    (hM : OM l Z y bytes' ml' none rm n0 h (.ref a :: argsL).toArray Q' rm.cells rm.slots) (hd : decode bytes pc = .ok (.invokespecial i, 3)) (hpd : parseMethodDescriptor y.desc = some ⟨ps, r0⟩) (hlen : argsL.length = ps.length) (hst : st = argsL.reverse ++ .ref a :: rest) (hsz : ls.size = ml) (hW : (rest.map fun v => v.category).sum = W)
    (hf : rm.frames + 1 ≤ R.frames) (hlo : W + (ml' + 11) + rm.locals ≤ R.locals) (hcl : cl + rm.cells ≤ R.cells) (hsl : sl + rm.slots ≤ R.slots) (hp : pc + 3 = pc')
    (k : ∀ v h', Q' v h' → OW p l e R s m args below meth c n0 Q K N h' (cl + rm.cells) (sl + rm.slots) (mkF m pc' ls (v.toList ++ rest))) : OW p l e R s m args below meth c n0 Q K N h cl sl (mkF m pc ls st) := fun T locs ⟨X, N0, e0, bc, bs⟩ => by
  subst hp
  obtain ⟨v, vm, ⟨T', L', cl', sl'⟩, -, X', ⟨Lc, ⟨hQ, hL⟩, e1, e2, e3⟩, kk⟩ := X.specialBack C.1 hyi C.2.2.2.1 (mv C.2.2.1 w1) (mv C.2.2.1 w2) (mv C.2.2.1 w4) hy (backOf (W := W) (Q := fun v h L => Q' v h ∧ Fr n0 L) (hM []) C.2.2.1 w4 w3 hf hlo) (g := mkF m pc ls st) rfl (by rw [C.2.2.2.2.1]; exact hsz) (Steps.refl _) (a := a) (argsL := argsL) (rest := rest) (lenOf hpd hlen) hst (by show 2 * 0 + _ ≤ _; omega) (C.d hd) (fun _ _ => ⟨rfl, e0, hcl, hsl⟩)
  dsimp only [Pt.U, Pt.locs, Pt.cells, Pt.slots] at X' e1 e2 e3 kk hQ
  subst e1 e2 e3
  obtain ⟨s₂, o, q, r⟩ := k v _ hQ T' _ ⟨X', Fr.app N0 hL, rfl, hcl, hsl⟩
  exact ⟨s₂, o, kk.trans q, r⟩
theorem OG.init (C : OC p s m meth c Z own nm bytes ml ret) {i : Nat} {y : MethodName} {bytes' : ByteArray} {ml' W fr lo : Nat} {r0 : Option FieldType} {argsL rest : List Value} {ps : List FieldType} {a : Addr}
    (w1 : (Cond.methodLink own i y).before a0 Z = true) (w2 : (Cond.instanceMethod y).before a0 Z = true) (w3 : (Cond.initialized y.cls).before a0 Z = true) (w4 : (Cond.code y bytes' ml' none).before a0 Z = true) (hyi : y.name = "<init>") (hy : y.cls ≠ "java/lang/invoke/MethodHandle" ∧ y.cls ≠ "java/lang/invoke/VarHandle")
    (hM : OM l Z y bytes' ml' none ⟨fr, 0, 0, lo⟩ n0 h (.ref a :: argsL).toArray (fun v h' => v = none ∧ h' = h) 0 0) (hd : decode bytes pc = .ok (.invokespecial i, 3)) (hpd : parseMethodDescriptor y.desc = some ⟨ps, r0⟩) (hlen : argsL.length = ps.length) (hst : st = argsL.reverse ++ .ref a :: rest) (hsz : ls.size = ml) (hW : (rest.map fun v => v.category).sum = W)
    (hf : fr + 1 ≤ R.frames) (hlo : W + (ml' + 11) + lo ≤ R.locals) (hp : pc + 3 = pc') :
    OG p l e R s m args below meth c n0 h (mkF m pc ls st) (mkF m pc' ls rest) := fun T locs cl sl ⟨X, N0, e0, bc, bs⟩ => by
  subst hp
  obtain ⟨v, vm, ⟨T', L', cl', sl'⟩, -, X', ⟨Lc, ⟨⟨rfl, hQ⟩, hL⟩, e1, e2, e3⟩, kk⟩ := X.specialBack C.1 hyi C.2.2.2.1 (mv C.2.2.1 w1) (mv C.2.2.1 w2) (mv C.2.2.1 w4) hy (backOf (W := W) (Q := fun v h' L => (v = none ∧ h' = h) ∧ Fr n0 L) (hM []) C.2.2.1 w4 w3 hf hlo) (g := mkF m pc ls st) rfl (by rw [C.2.2.2.2.1]; exact hsz) (Steps.refl _) (a := a) (argsL := argsL) (rest := rest) (lenOf hpd hlen) hst (by show 2 * 0 + _ ≤ _; omega) (C.d hd) (fun _ _ => ⟨rfl, e0, bc, bs⟩)
  dsimp only [Pt.U, Pt.locs, Pt.cells, Pt.slots] at X' e1 e2 e3 kk hQ
  subst e1 e2 e3
  exact ⟨T', _, ⟨X', Fr.app N0 hL, hQ, bc, bs⟩, fun t q => kk.trans q⟩
theorem OW.callV (C : OC p s m meth c Z own nm bytes ml ret) {i : Nat} {y : MethodName} {bytes' : ByteArray} {ml' W : Nat} {ret' r0 : Option FieldType} {rm : Room} {argsL rest : List Value} {ps : List FieldType} {Q' : Option Value → Heap → Prop} {a : Addr} {Cl : String}
    (w1 : (Cond.methodLink own i y).before a0 Z = true) (wd : (Cond.declares y).before a0 Z = true) (ws : (Cond.selects Cl y y).before a0 Z = true) (w2 : (Cond.instanceMethod y).before a0 Z = true) (w3 : (Cond.initialized y.cls).before a0 Z = true) (w4 : (Cond.code y bytes' ml' ret').before a0 Z = true) (hy : y.cls ≠ "java/lang/invoke/MethodHandle" ∧ y.cls ≠ "java/lang/invoke/VarHandle") (E : Exa Z h a Cl)
    (hM : OM l Z y bytes' ml' ret' rm n0 h (.ref a :: argsL).toArray Q' rm.cells rm.slots) (hd : decode bytes pc = .ok (.invokevirtual i, 3)) (hpd : parseMethodDescriptor y.desc = some ⟨ps, r0⟩) (hlen : argsL.length = ps.length) (hst : st = argsL.reverse ++ .ref a :: rest) (hsz : ls.size = ml) (hW : (rest.map fun v => v.category).sum = W)
    (hf : rm.frames + 1 ≤ R.frames) (hlo : W + (ml' + 11) + rm.locals ≤ R.locals) (hcl : cl + rm.cells ≤ R.cells) (hsl : sl + rm.slots ≤ R.slots) (hp : pc + 3 = pc')
    (k : ∀ v h', Q' v h' → OW p l e R s m args below meth c n0 Q K N h' (cl + rm.cells) (sl + rm.slots) (mkF m pc' ls (v.toList ++ rest))) : OW p l e R s m args below meth c n0 Q K N h cl sl (mkF m pc ls st) := fun T locs ⟨X, N0, e0, bc, bs⟩ => by
  subst hp
  obtain ⟨cq, kq, qa, qb, qc⟩ := isOf C.2.2.1 e0 E
  obtain ⟨v, vm, ⟨T', L', cl', sl'⟩, -, X', ⟨Lc, ⟨hQ, hL⟩, e1, e2, e3⟩, kk⟩ := X.virtualBack C.1 C.2.2.2.1 (mv C.2.2.1 w1) (mv C.2.2.1 wd) (notFace_of_selects (args := #[]) (mv C.2.2.1 ws)) (mv C.2.2.1 ws) (mv C.2.2.1 w2) hy (backOf (W := W) (Q := fun v h L => Q' v h ∧ Fr n0 L) (hM []) C.2.2.1 w4 w3 hf hlo) qa qc (g := mkF m pc ls st) rfl (by rw [C.2.2.2.2.1]; exact hsz) (Steps.refl _) (argsL := argsL) (rest := rest) (lenOf hpd hlen) hst (by show 2 * 0 + _ ≤ _; omega) (C.d hd) (fun _ _ => ⟨rfl, e0, hcl, hsl⟩)
  dsimp only [Pt.U, Pt.locs, Pt.cells, Pt.slots] at X' e1 e2 e3 kk hQ
  subst e1 e2 e3
  obtain ⟨s₂, o, q, r⟩ := k v _ hQ T' _ ⟨X', Fr.app N0 hL, rfl, hcl, hsl⟩
  exact ⟨s₂, o, kk.trans q, r⟩
theorem OG.callV (C : OC p s m meth c Z own nm bytes ml ret) {i : Nat} {y : MethodName} {bytes' : ByteArray} {ml' W fr lo : Nat} {ret' r0 : Option FieldType} {argsL rest : List Value} {ps : List FieldType} {w : Value} {a : Addr} {Cl : String}
    (w1 : (Cond.methodLink own i y).before a0 Z = true) (wd : (Cond.declares y).before a0 Z = true) (ws : (Cond.selects Cl y y).before a0 Z = true) (w2 : (Cond.instanceMethod y).before a0 Z = true) (w3 : (Cond.initialized y.cls).before a0 Z = true) (w4 : (Cond.code y bytes' ml' ret').before a0 Z = true) (hy : y.cls ≠ "java/lang/invoke/MethodHandle" ∧ y.cls ≠ "java/lang/invoke/VarHandle") (E : Exa Z h a Cl)
    (hM : OM l Z y bytes' ml' ret' ⟨fr, 0, 0, lo⟩ n0 h (.ref a :: argsL).toArray (fun v h' => v = some w ∧ h' = h) 0 0) (hd : decode bytes pc = .ok (.invokevirtual i, 3)) (hpd : parseMethodDescriptor y.desc = some ⟨ps, r0⟩) (hlen : argsL.length = ps.length) (hst : st = argsL.reverse ++ .ref a :: rest) (hsz : ls.size = ml) (hW : (rest.map fun v => v.category).sum = W)
    (hf : fr + 1 ≤ R.frames) (hlo : W + (ml' + 11) + lo ≤ R.locals) (hp : pc + 3 = pc') :
    OG p l e R s m args below meth c n0 h (mkF m pc ls st) (mkF m pc' ls (w :: rest)) := fun T locs cl sl ⟨X, N0, e0, bc, bs⟩ => by
  subst hp
  obtain ⟨cq, kq, qa, qb, qc⟩ := isOf C.2.2.1 e0 E
  obtain ⟨v, vm, ⟨T', L', cl', sl'⟩, -, X', ⟨Lc, ⟨⟨rfl, hQ⟩, hL⟩, e1, e2, e3⟩, kk⟩ := X.virtualBack C.1 C.2.2.2.1 (mv C.2.2.1 w1) (mv C.2.2.1 wd) (notFace_of_selects (args := #[]) (mv C.2.2.1 ws)) (mv C.2.2.1 ws) (mv C.2.2.1 w2) hy (backOf (W := W) (Q := fun v h' L => (v = some w ∧ h' = h) ∧ Fr n0 L) (hM []) C.2.2.1 w4 w3 hf hlo) qa qc (g := mkF m pc ls st) rfl (by rw [C.2.2.2.2.1]; exact hsz) (Steps.refl _) (argsL := argsL) (rest := rest) (lenOf hpd hlen) hst (by show 2 * 0 + _ ≤ _; omega) (C.d hd) (fun _ _ => ⟨rfl, e0, bc, bs⟩)
  dsimp only [Pt.U, Pt.locs, Pt.cells, Pt.slots] at X' e1 e2 e3 kk hQ
  subst e1 e2 e3
  exact ⟨T', _, ⟨X', Fr.app N0 hL, hQ, bc, bs⟩, fun t q => kk.trans q⟩
theorem Exa.pl {h : Heap} {a : Addr} {C : String} (F : Exa Z h a C) : ∃ c : Cell, h[a]? = some c ∧ c.vm.isStatics = false := by obtain ⟨c, _, h1, -, -, h4, -⟩ := F; exact ⟨c, h1, h4⟩
theorem OA.pl {a : Addr} {ty : FieldType} {vs : List Value} (F : OA Z h a ty vs) : ∃ c : Cell, h[a]? = some c ∧ c.vm.isStatics = false := by obtain ⟨c, A, -⟩ := F; exact ⟨c, A.1, A.plain⟩
theorem Sta.kp {h h' : Heap} {C n d : String} {v : Value} {ws : List Addr} (F : Sta Z h C n d v) (K : Keep h h' ws) (q : ∀ a ∈ ws, ∃ c : Cell, h[a]? = some c ∧ c.vm.isStatics = false) : Sta Z h' C n d v := by
  obtain ⟨cf, i, k, f, st, cell, h1, h2, h3, h4, h5, h6, h7⟩ := F
  refine ⟨cf, i, k, f, st, cell, h1, h2, h3, h4, K.2.1 st cell h5 (fun hm => ?_), h6, h7⟩
  obtain ⟨c, e1, e2⟩ := q st hm
  cases h5.symm.trans e1
  rw [h6] at e2; cases e2
theorem OW.join {P : Value → Heap → Prop} {f : Value → JFrame} {cl' sl' : Nat} (b : (∀ v h', P v h' → OW p l e R s m args below meth c n0 Q K N h' cl' sl' (f v)) → OW p l e R s m args below meth c n0 Q K N h cl sl g) (k : ∀ v h', P v h' → OW p l e R s m args below meth c n0 Q K N h' cl' sl' (f v)) : OW p l e R s m args below meth c n0 Q K N h cl sl g := b k
theorem own_nr {v : Value} {t : FieldType} (q : v.isRef = true) (ht : t.isReference = true) : narrow t v = v ∧ fits t v = true := by
  rcases ref_cases q with rfl | ⟨_, rfl⟩ <;> cases t <;> first | (cases ht; done) | exact ⟨rfl, rfl⟩
/-! what a branch over two longs asks -/
theorem tltL {x y : Int64} (q : x < y) : ifCond.holds .lt (lcmpW x y) = true ∧ ifCond.holds .ge (lcmpW x y) = false ∧ ifCond.holds .gt (lcmpW y x) = true ∧ ifCond.holds .le (lcmpW y x) = false := by
  have a := (lw_lt x y).mpr q
  have b := (lw_gt y x).mpr q
  rw [if0, if0, if0, if0]; exact ⟨(tlt a).1, (tlt a).2.1, (tlt b).2.2.1, (tlt b).2.2.2⟩
theorem fltL {x y : Int64} (q : ¬ x < y) : ifCond.holds .lt (lcmpW x y) = false ∧ ifCond.holds .ge (lcmpW x y) = true ∧ ifCond.holds .gt (lcmpW y x) = false ∧ ifCond.holds .le (lcmpW y x) = true := by
  have a := fun z => q ((lw_lt x y).mp z)
  have b := fun z => q ((lw_gt y x).mp z)
  rw [if0, if0, if0, if0]; exact ⟨(flt a).1, (flt a).2.1, (flt b).2.2.1, (flt b).2.2.2⟩
theorem teqL {x y : Int64} (q : x = y) : ifCond.holds .eq (lcmpW x y) = true ∧ ifCond.holds .ne (lcmpW x y) = false := by
  have a := (lw_eq x y).mpr q
  rw [if0, if0]; exact teq a
theorem feqL {x y : Int64} (q : ¬ x = y) : ifCond.holds .eq (lcmpW x y) = false ∧ ifCond.holds .ne (lcmpW x y) = true := by
  have a := fun z => q ((lw_eq x y).mp z)
  rw [if0, if0]; exact feq a
theorem tlt0 {x y : Int32} (q : x < y) : if_icmp.holds .lt x y = true ∧ if_icmp.holds .ge x y = false ∧ if_icmp.holds .gt y x = true ∧ if_icmp.holds .le y x = false := tlt q
end Own
end Jvm.RoadKit
namespace Jvm.Pilot.@@N@@
open Jvm Jvm.ClassFile Sem Op Lib Jvm.Free Jvm.Stand Jvm.LawKit Jvm.RoadKit Bundle Jvm.Pilot.@@N@@.Jvm.D
abbrev HW (a0 : Array Value) (Z : State) : Prop := ∀ d ∈ tables_1, d.before a0 Z = true
theorem w0 {a0 : Array Value} {Z : State} (hw : HW a0 Z) : (Jvm.Cond.constant "com/example/kartoteka/kartoteka/iso2709/LayoutNumberPinLaw" (7 : Nat) (2147483647 : Int32)).before a0 Z = true := hw _ (List.mem_of_getElem? (i := 0) rfl)
theorem w1 {a0 : Array Value} {Z : State} (hw : HW a0 Z) : (Jvm.Cond.arrayClass Jvm.ClassFile.FieldType.byte).before a0 Z = true := hw _ (List.mem_of_getElem? (i := 1) rfl)
theorem w2 {a0 : Array Value} {Z : State} (hw : HW a0 Z) : (Jvm.Cond.methodLink "com/example/kartoteka/kartoteka/iso2709/LayoutNumberPinLaw" (8 : Nat) ({ cls := "com/example/kartoteka/kartoteka/iso2709/LayoutNumberPinLaw", name := "draw", desc := "(JII)B" } : Jvm.MethodName)).before a0 Z = true := hw _ (List.mem_of_getElem? (i := 2) rfl)
theorem w3 {a0 : Array Value} {Z : State} (hw : HW a0 Z) : (Jvm.Cond.static ({ cls := "com/example/kartoteka/kartoteka/iso2709/LayoutNumberPinLaw", name := "draw", desc := "(JII)B" } : Jvm.MethodName)).before a0 Z = true := hw _ (List.mem_of_getElem? (i := 3) rfl)
theorem w4 {a0 : Array Value} {Z : State} (hw : HW a0 Z) : (Jvm.Cond.initialized "com/example/kartoteka/kartoteka/iso2709/LayoutNumberPinLaw").before a0 Z = true := hw _ (List.mem_of_getElem? (i := 4) rfl)
theorem w5 {a0 : Array Value} {Z : State} (hw : HW a0 Z) : (Jvm.Cond.code ({ cls := "com/example/kartoteka/kartoteka/iso2709/LayoutNumberPinLaw", name := "draw", desc := "(JII)B" } : Jvm.MethodName) method_3_code (5 : Nat) (Option.some Jvm.ClassFile.FieldType.byte)).before a0 Z = true := hw _ (List.mem_of_getElem? (i := 5) rfl)
theorem w6 {a0 : Array Value} {Z : State} (hw : HW a0 Z) : (Jvm.Cond.constantLong "com/example/kartoteka/kartoteka/iso2709/LayoutNumberPinLaw" (30 : Nat) (255 : Int64)).before a0 Z = true := hw _ (List.mem_of_getElem? (i := 6) rfl)
theorem w7 {a0 : Array Value} {Z : State} (hw : HW a0 Z) : (Jvm.Cond.methodLink "com/example/kartoteka/kartoteka/iso2709/LayoutNumberPinLaw" (14 : Nat) ({ cls := "com/example/kartoteka/kartoteka/iso2709/Layout", name := "number", desc := "([BII)I" } : Jvm.MethodName)).before a0 Z = true := hw _ (List.mem_of_getElem? (i := 7) rfl)
theorem w8 {a0 : Array Value} {Z : State} (hw : HW a0 Z) : (Jvm.Cond.static ({ cls := "com/example/kartoteka/kartoteka/iso2709/Layout", name := "number", desc := "([BII)I" } : Jvm.MethodName)).before a0 Z = true := hw _ (List.mem_of_getElem? (i := 8) rfl)
theorem w9 {a0 : Array Value} {Z : State} (hw : HW a0 Z) : (Jvm.Cond.initialized "com/example/kartoteka/kartoteka/iso2709/Layout").before a0 Z = true := hw _ (List.mem_of_getElem? (i := 9) rfl)
theorem w10 {a0 : Array Value} {Z : State} (hw : HW a0 Z) : (Jvm.Cond.code ({ cls := "com/example/kartoteka/kartoteka/iso2709/Layout", name := "number", desc := "([BII)I" } : Jvm.MethodName) prog_55_method_6_code (5 : Nat) (Option.some Jvm.ClassFile.FieldType.int)).before a0 Z = true := hw _ (List.mem_of_getElem? (i := 10) rfl)
theorem w11 {a0 : Array Value} {Z : State} (hw : HW a0 Z) : (Jvm.Cond.methodLink "com/example/kartoteka/kartoteka/iso2709/LayoutNumberPinLaw" (20 : Nat) ({ cls := "com/example/kartoteka/kartoteka/iso2709/LayoutNumberPinLaw", name := "bad", desc := "(BIII)Z" } : Jvm.MethodName)).before a0 Z = true := hw _ (List.mem_of_getElem? (i := 11) rfl)
theorem w12 {a0 : Array Value} {Z : State} (hw : HW a0 Z) : (Jvm.Cond.static ({ cls := "com/example/kartoteka/kartoteka/iso2709/LayoutNumberPinLaw", name := "bad", desc := "(BIII)Z" } : Jvm.MethodName)).before a0 Z = true := hw _ (List.mem_of_getElem? (i := 12) rfl)
theorem w13 {a0 : Array Value} {Z : State} (hw : HW a0 Z) : (Jvm.Cond.code ({ cls := "com/example/kartoteka/kartoteka/iso2709/LayoutNumberPinLaw", name := "bad", desc := "(BIII)Z" } : Jvm.MethodName) method_5_code (4 : Nat) (Option.some Jvm.ClassFile.FieldType.boolean)).before a0 Z = true := hw _ (List.mem_of_getElem? (i := 13) rfl)
theorem w14 {a0 : Array Value} {Z : State} (hw : HW a0 Z) : (Jvm.Cond.methodLink "com/example/kartoteka/kartoteka/iso2709/LayoutNumberPinLaw" (32 : Nat) ({ cls := "com/example/kartoteka/kartoteka/iso2709/LayoutNumberPinLaw", name := "inRange", desc := "(III)Z" } : Jvm.MethodName)).before a0 Z = true := hw _ (List.mem_of_getElem? (i := 14) rfl)
theorem w15 {a0 : Array Value} {Z : State} (hw : HW a0 Z) : (Jvm.Cond.static ({ cls := "com/example/kartoteka/kartoteka/iso2709/LayoutNumberPinLaw", name := "inRange", desc := "(III)Z" } : Jvm.MethodName)).before a0 Z = true := hw _ (List.mem_of_getElem? (i := 15) rfl)
theorem w16 {a0 : Array Value} {Z : State} (hw : HW a0 Z) : (Jvm.Cond.code ({ cls := "com/example/kartoteka/kartoteka/iso2709/LayoutNumberPinLaw", name := "inRange", desc := "(III)Z" } : Jvm.MethodName) method_4_code (3 : Nat) (Option.some Jvm.ClassFile.FieldType.boolean)).before a0 Z = true := hw _ (List.mem_of_getElem? (i := 16) rfl)
theorem w17 {a0 : Array Value} {Z : State} (hw : HW a0 Z) : (Jvm.Cond.methodLink "com/example/kartoteka/kartoteka/iso2709/LayoutNumberPinLaw" (26 : Nat) ({ cls := "com/example/kartoteka/kartoteka/iso2709/LayoutNumberPinLaw", name := "value", desc := "(BIII)J" } : Jvm.MethodName)).before a0 Z = true := hw _ (List.mem_of_getElem? (i := 17) rfl)
theorem w18 {a0 : Array Value} {Z : State} (hw : HW a0 Z) : (Jvm.Cond.static ({ cls := "com/example/kartoteka/kartoteka/iso2709/LayoutNumberPinLaw", name := "value", desc := "(BIII)J" } : Jvm.MethodName)).before a0 Z = true := hw _ (List.mem_of_getElem? (i := 18) rfl)
theorem w19 {a0 : Array Value} {Z : State} (hw : HW a0 Z) : (Jvm.Cond.code ({ cls := "com/example/kartoteka/kartoteka/iso2709/LayoutNumberPinLaw", name := "value", desc := "(BIII)J" } : Jvm.MethodName) method_6_code (4 : Nat) (Option.some Jvm.ClassFile.FieldType.long)).before a0 Z = true := hw _ (List.mem_of_getElem? (i := 19) rfl)
theorem w20 {a0 : Array Value} {Z : State} (hw : HW a0 Z) : (Jvm.Cond.constantLong "com/example/kartoteka/kartoteka/iso2709/LayoutNumberPinLaw" (24 : Nat) (-1 : Int64)).before a0 Z = true := hw _ (List.mem_of_getElem? (i := 20) rfl)
theorem w21 {a0 : Array Value} {Z : State} (hw : HW a0 Z) : (Jvm.Cond.methodLink "com/example/kartoteka/kartoteka/iso2709/LayoutNumberPinLaw" (36 : Nat) ({ cls := "com/example/kartoteka/kartoteka/iso2709/LayoutNumberPinLaw", name := "pow10", desc := "(I)J" } : Jvm.MethodName)).before a0 Z = true := hw _ (List.mem_of_getElem? (i := 21) rfl)
theorem w22 {a0 : Array Value} {Z : State} (hw : HW a0 Z) : (Jvm.Cond.static ({ cls := "com/example/kartoteka/kartoteka/iso2709/LayoutNumberPinLaw", name := "pow10", desc := "(I)J" } : Jvm.MethodName)).before a0 Z = true := hw _ (List.mem_of_getElem? (i := 22) rfl)
theorem w23 {a0 : Array Value} {Z : State} (hw : HW a0 Z) : (Jvm.Cond.code ({ cls := "com/example/kartoteka/kartoteka/iso2709/LayoutNumberPinLaw", name := "pow10", desc := "(I)J" } : Jvm.MethodName) method_7_code (1 : Nat) (Option.some Jvm.ClassFile.FieldType.long)).before a0 Z = true := hw _ (List.mem_of_getElem? (i := 23) rfl)
theorem w24 {a0 : Array Value} {Z : State} (hw : HW a0 Z) : (Jvm.Cond.constantLong "com/example/kartoteka/kartoteka/iso2709/LayoutNumberPinLaw" (44 : Nat) (1000 : Int64)).before a0 Z = true := hw _ (List.mem_of_getElem? (i := 24) rfl)
theorem w25 {a0 : Array Value} {Z : State} (hw : HW a0 Z) : (Jvm.Cond.constantLong "com/example/kartoteka/kartoteka/iso2709/LayoutNumberPinLaw" (42 : Nat) (100 : Int64)).before a0 Z = true := hw _ (List.mem_of_getElem? (i := 25) rfl)
theorem w26 {a0 : Array Value} {Z : State} (hw : HW a0 Z) : (Jvm.Cond.constantLong "com/example/kartoteka/kartoteka/iso2709/LayoutNumberPinLaw" (40 : Nat) (10 : Int64)).before a0 Z = true := hw _ (List.mem_of_getElem? (i := 26) rfl)
theorem w27 {a0 : Array Value} {Z : State} (hw : HW a0 Z) : (Jvm.Cond.constantLong "com/example/kartoteka/kartoteka/iso2709/LayoutNumberPinLaw" (46 : Nat) (10000 : Int64)).before a0 Z = true := hw _ (List.mem_of_getElem? (i := 27) rfl)
theorem w28 {a0 : Array Value} {Z : State} (hw : HW a0 Z) : (Jvm.Cond.constantLong "com/example/kartoteka/kartoteka/iso2709/LayoutNumberPinLaw" (48 : Nat) (100000 : Int64)).before a0 Z = true := hw _ (List.mem_of_getElem? (i := 28) rfl)
theorem pd_0 : parseMethodDescriptor "(III)Z" = some ⟨[.int, .int, .int], some .boolean⟩ := by decide +kernel
theorem pd_1 : parseMethodDescriptor "(I)J" = some ⟨[.int], some .long⟩ := by decide +kernel
theorem pd_2 : parseMethodDescriptor "(JII)B" = some ⟨[.long, .int, .int], some .byte⟩ := by decide +kernel
theorem pd_3 : parseMethodDescriptor "([BII)I" = some ⟨[(.array .byte), .int, .int], some .int⟩ := by decide +kernel
theorem pd_4 : parseMethodDescriptor "(BIII)Z" = some ⟨[.byte, .int, .int, .int], some .boolean⟩ := by decide +kernel
theorem pd_5 : parseMethodDescriptor "(BIII)J" = some ⟨[.byte, .int, .int, .int], some .long⟩ := by decide +kernel
theorem pn_0 : plainName "com/example/kartoteka/kartoteka/iso2709/LayoutNumberPinLaw" = true := by first | (simp [plainName, overriddenIn]; done) | decide +kernel
theorem pn_1 : plainName "com/example/kartoteka/kartoteka/iso2709/Layout" = true := by first | (simp [plainName, overriddenIn]; done) | decide +kernel
theorem d1_0 : decode method_3_code 0 = .ok (.lload_n 0, 1) := by decide +kernel
theorem d1_1 : decode method_3_code 1 = .ok (.bipush 8, 2) := by decide +kernel
theorem d1_3 : decode method_3_code 3 = .ok (.iload_n 2, 1) := by decide +kernel
theorem d1_4 : decode method_3_code 4 = .ok (.imul, 1) := by decide +kernel
theorem d1_5 : decode method_3_code 5 = .ok (.lushr, 1) := by decide +kernel
theorem d1_6 : decode method_3_code 6 = .ok (.ldc2_w 30, 3) := by decide +kernel
theorem d1_9 : decode method_3_code 9 = .ok (.land, 1) := by decide +kernel
theorem d1_10 : decode method_3_code 10 = .ok (.l2i, 1) := by decide +kernel
theorem d1_11 : decode method_3_code 11 = .ok (.istore 4, 2) := by decide +kernel
theorem d1_13 : decode method_3_code 13 = .ok (.iload_n 3, 1) := by decide +kernel
theorem d1_14 : decode method_3_code 14 = .ok (.iload_n 2, 1) := by decide +kernel
theorem d1_15 : decode method_3_code 15 = .ok (.iushr, 1) := by decide +kernel
theorem d1_16 : decode method_3_code 16 = .ok (.iconst 1, 1) := by decide +kernel
theorem d1_17 : decode method_3_code 17 = .ok (.iand, 1) := by decide +kernel
theorem d1_18 : decode method_3_code 18 = .ok (.ifCond .eq 13, 3) := by decide +kernel
theorem d1_21 : decode method_3_code 21 = .ok (.bipush 48, 2) := by decide +kernel
theorem d1_23 : decode method_3_code 23 = .ok (.iload 4, 2) := by decide +kernel
theorem d1_25 : decode method_3_code 25 = .ok (.bipush 10, 2) := by decide +kernel
theorem d1_27 : decode method_3_code 27 = .ok (.irem, 1) := by decide +kernel
theorem d1_28 : decode method_3_code 28 = .ok (.iadd, 1) := by decide +kernel
theorem d1_29 : decode method_3_code 29 = .ok (.i2b, 1) := by decide +kernel
theorem d1_30 : decode method_3_code 30 = .ok (.ireturn, 1) := by decide +kernel
theorem d1_31 : decode method_3_code 31 = .ok (.iload 4, 2) := by decide +kernel
theorem d1_33 : decode method_3_code 33 = .ok (.i2b, 1) := by decide +kernel
theorem d1_34 : decode method_3_code 34 = .ok (.ireturn, 1) := by decide +kernel
def F1 (x0 : Int64) (x1 : Int32) (x2 : Int32) : Int32 := let y1 : Int32 := ((x0.toUInt64 >>> (((8 : Int32) * x1) &&& 0x3f).toInt64.toUInt64).toInt64 &&& (255 : Int64)).toInt32; if ((x2.toUInt32 >>> (x1 &&& 31).toUInt32).toInt32 &&& (1 : Int32)) = (0 : Int32) then (y1.toInt8.toInt32) else (((48 : Int32) + (y1 % (10 : Int32))).toInt8.toInt32)
set_option maxRecDepth 65536 in
set_option maxHeartbeats 40000000 in
theorem b1 {l : Launch} {Z : State} {a0 : Array Value} (hw : HW a0 Z) (x0 : Int64) (x1 : Int32) (x2 : Int32) {n0 : Nat} {h : Heap}  : OM l Z (⟨"com/example/kartoteka/kartoteka/iso2709/LayoutNumberPinLaw", "draw", "(JII)B"⟩ : MethodName) method_3_code 5 (some .byte) ⟨0, 0, 0, 0⟩ n0 h #[(.long x0), (.int x1), (.int x2)] (fun v h' => v = some (.int (nar .byte (F1 x0 x1 x2))) ∧ h' = h) 0 0 := by
  refine OM.of_body (ls := #[.val (.long x0), .second, .val (.int x1), .val (.int x2), .unset]) (plainFor_of_name pn_0) (fun m => by first | rfl | simp [entryFrame, mkF, argsToLocals, Value.category]) ?_
  intro p e s m below meth c C
  refine OG.ow (OG.lloadN C d1_0 rfl (pc' := 1) rfl) ?_
  refine OG.ow (OG.bipush C d1_1 (z := (8 : Int32)) (by decide) (pc' := 3) rfl) ?_
  refine OG.ow (OG.iloadN C d1_3 rfl (pc' := 4) rfl) ?_
  refine OG.ow (OG.imul C d1_4 (pc' := 5) rfl) ?_
  refine OG.ow (OG.lushr C d1_5 (pc' := 6) rfl) ?_
  refine OG.ow (OG.ldcL C (w6 hw) d1_6 (pc' := 9) rfl) ?_
  refine OG.ow (OG.land C d1_9 (pc' := 10) rfl) ?_
  refine OG.ow (OG.l2i C d1_10 (pc' := 11) rfl) ?_
  generalize hy1 : ((x0.toUInt64 >>> (((8 : Int32) * x1) &&& 0x3f).toInt64.toUInt64).toInt64 &&& (255 : Int64)).toInt32 = y1
  refine OG.ow (OG.istore C d1_11 (ls' := #[.val (.long x0), .second, .val (.int x1), .val (.int x2), .val (.int y1)]) rfl (pc' := 13) rfl) ?_
  refine OG.ow (OG.iloadN C d1_13 rfl (pc' := 14) rfl) ?_
  refine OG.ow (OG.iloadN C d1_14 rfl (pc' := 15) rfl) ?_
  refine OG.ow (OG.iushr C d1_15 (pc' := 16) rfl) ?_
  refine OG.ow (OG.iconst C d1_16 (z := (1 : Int32)) rfl (pc' := 17) rfl) ?_
  refine OG.ow (OG.iand C d1_17 (pc' := 18) rfl) ?_
  by_cases hc2 : ((x2.toUInt32 >>> (x1 &&& 31).toUInt32).toInt32 &&& (1 : Int32)) = (0 : Int32)
  · refine OG.ow (OG.ifYes C d1_18 ((if0 _ _).trans (teq hc2).1) (by decide) (pc' := 31) (by decide)) ?_
    refine OG.ow (OG.iload C d1_31 rfl (pc' := 33) rfl) ?_
    refine OG.ow (OG.i2b C d1_33 (pc' := 34) rfl) ?_
    refine OW.retN (t := .byte) C (by simp) d1_34 (by decide) (by decide) ?_
    refine ⟨congrArg (fun z => some (Value.int (nar .byte z))) ?_, rfl⟩
    subst hy1
    show _ = F1 x0 x1 x2
    first | (unfold F1; rw [if_pos hc2]) | (unfold F1; dsimp only; rw [if_pos hc2])
  · refine OG.ow (OG.ifNo C d1_18 ((if0 _ _).trans (feq hc2).1) (pc' := 21) rfl) ?_
    refine OG.ow (OG.bipush C d1_21 (z := (48 : Int32)) (by decide) (pc' := 23) rfl) ?_
    refine OG.ow (OG.iload C d1_23 rfl (pc' := 25) rfl) ?_
    refine OG.ow (OG.bipush C d1_25 (z := (10 : Int32)) (by decide) (pc' := 27) rfl) ?_
    refine OG.ow (OG.irem C d1_27 (by decide) (pc' := 28) rfl) ?_
    refine OG.ow (OG.iadd C d1_28 (pc' := 29) rfl) ?_
    refine OG.ow (OG.i2b C d1_29 (pc' := 30) rfl) ?_
    refine OW.retN (t := .byte) C (by simp) d1_30 (by decide) (by decide) ?_
    refine ⟨congrArg (fun z => some (Value.int (nar .byte z))) ?_, rfl⟩
    subst hy1
    show _ = F1 x0 x1 x2
    first | (unfold F1; rw [if_neg hc2]) | (unfold F1; dsimp only; rw [if_neg hc2])
theorem d4_0 : decode method_4_code 0 = .ok (.iload_n 0, 1) := by decide +kernel
theorem d4_1 : decode method_4_code 1 = .ok (.iload_n 1, 1) := by decide +kernel
theorem d4_2 : decode method_4_code 2 = .ok (.if_icmp .lt 12, 3) := by decide +kernel
theorem d4_5 : decode method_4_code 5 = .ok (.iload_n 0, 1) := by decide +kernel
theorem d4_6 : decode method_4_code 6 = .ok (.iload_n 2, 1) := by decide +kernel
theorem d4_7 : decode method_4_code 7 = .ok (.if_icmp .ge 7, 3) := by decide +kernel
theorem d4_10 : decode method_4_code 10 = .ok (.iconst 1, 1) := by decide +kernel
theorem d4_11 : decode method_4_code 11 = .ok (.goto 4, 3) := by decide +kernel
theorem d4_14 : decode method_4_code 14 = .ok (.iconst 0, 1) := by decide +kernel
theorem d4_15 : decode method_4_code 15 = .ok (.ireturn, 1) := by decide +kernel
def F4 (x0 : Int32) (x1 : Int32) (x2 : Int32) : Int32 := (if x0 < x1 then (0 : Int32) else (if x0 < x2 then (1 : Int32) else (0 : Int32)))
set_option maxRecDepth 65536 in
set_option maxHeartbeats 40000000 in
theorem b4 {l : Launch} {Z : State} {a0 : Array Value} (hw : HW a0 Z) (x0 : Int32) (x1 : Int32) (x2 : Int32) {n0 : Nat} {h : Heap}  : OM l Z (⟨"com/example/kartoteka/kartoteka/iso2709/LayoutNumberPinLaw", "inRange", "(III)Z"⟩ : MethodName) method_4_code 3 (some .boolean) ⟨0, 0, 0, 0⟩ n0 h #[(.int x0), (.int x1), (.int x2)] (fun v h' => v = some (.int (nar .boolean (F4 x0 x1 x2))) ∧ h' = h) 0 0 := by
  refine OM.of_body (ls := #[.val (.int x0), .val (.int x1), .val (.int x2)]) (plainFor_of_name pn_0) (fun m => by first | rfl | simp [entryFrame, mkF, argsToLocals, Value.category]) ?_
  intro p e s m below meth c C
  refine OG.ow (OG.iloadN C d4_0 rfl (pc' := 1) rfl) ?_
  refine OG.ow (OG.iloadN C d4_1 rfl (pc' := 2) rfl) ?_
  refine OG.ow (OG.ite (α := Int32) (P := x0 < x1) (f := fun v => (mkF m 15 #[.val (.int x0), .val (.int x1), .val (.int x2)] [(.int v)])) (x := (0 : Int32)) (y := (if x0 < x2 then (1 : Int32) else (0 : Int32))) (fun hc => ?_) (fun hc => ?_)) ?_
  · refine OG.trans (OG.icmpYes C d4_2 (tlt hc).1 (by decide) (pc' := 14) (by decide)) ?_
    refine OG.trans (OG.iconst C d4_14 (z := (0 : Int32)) rfl (pc' := 15) rfl) ?_
    exact OG.refl
  · refine OG.trans (OG.icmpNo C d4_2 (flt hc).1 (pc' := 5) rfl) ?_
    refine OG.trans (OG.iloadN C d4_5 rfl (pc' := 6) rfl) ?_
    refine OG.trans (OG.iloadN C d4_6 rfl (pc' := 7) rfl) ?_
    refine OG.trans (OG.ite (α := Int32) (P := x0 < x2) (f := fun v => (mkF m 15 #[.val (.int x0), .val (.int x1), .val (.int x2)] [(.int v)])) (x := (1 : Int32)) (y := (0 : Int32)) (fun hc => ?_) (fun hc => ?_)) ?_
    · refine OG.trans (OG.icmpNo C d4_7 (tlt hc).2.1 (pc' := 10) rfl) ?_
      refine OG.trans (OG.iconst C d4_10 (z := (1 : Int32)) rfl (pc' := 11) rfl) ?_
      refine OG.trans (OG.goto C d4_11 (by decide) (pc' := 15) (by decide)) ?_
      exact OG.refl
    · refine OG.trans (OG.icmpYes C d4_7 (flt hc).2.1 (by decide) (pc' := 14) (by decide)) ?_
      refine OG.trans (OG.iconst C d4_14 (z := (0 : Int32)) rfl (pc' := 15) rfl) ?_
      exact OG.refl
    exact OG.refl
  refine OW.retN (t := .boolean) C (by simp) d4_15 (by decide) (by decide) ?_
  refine ⟨congrArg (fun z => some (Value.int (nar .boolean z))) ?_, rfl⟩
  show _ = F4 x0 x1 x2
  rfl
theorem d6_0 : decode method_7_code 0 = .ok (.iload_n 0, 1) := by decide +kernel
theorem d6_1 : decode method_7_code 1 = .ok (.ifCond .ne 5, 3) := by decide +kernel
theorem d6_4 : decode method_7_code 4 = .ok (.lconst 1, 1) := by decide +kernel
theorem d6_5 : decode method_7_code 5 = .ok (.lreturn, 1) := by decide +kernel
theorem d6_6 : decode method_7_code 6 = .ok (.iload_n 0, 1) := by decide +kernel
theorem d6_7 : decode method_7_code 7 = .ok (.iconst 1, 1) := by decide +kernel
theorem d6_8 : decode method_7_code 8 = .ok (.if_icmp .ne 7, 3) := by decide +kernel
theorem d6_11 : decode method_7_code 11 = .ok (.ldc2_w 40, 3) := by decide +kernel
theorem d6_14 : decode method_7_code 14 = .ok (.lreturn, 1) := by decide +kernel
theorem d6_15 : decode method_7_code 15 = .ok (.iload_n 0, 1) := by decide +kernel
theorem d6_16 : decode method_7_code 16 = .ok (.iconst 2, 1) := by decide +kernel
theorem d6_17 : decode method_7_code 17 = .ok (.if_icmp .ne 7, 3) := by decide +kernel
theorem d6_20 : decode method_7_code 20 = .ok (.ldc2_w 42, 3) := by decide +kernel
theorem d6_23 : decode method_7_code 23 = .ok (.lreturn, 1) := by decide +kernel
theorem d6_24 : decode method_7_code 24 = .ok (.iload_n 0, 1) := by decide +kernel
theorem d6_25 : decode method_7_code 25 = .ok (.iconst 3, 1) := by decide +kernel
theorem d6_26 : decode method_7_code 26 = .ok (.if_icmp .ne 7, 3) := by decide +kernel
theorem d6_29 : decode method_7_code 29 = .ok (.ldc2_w 44, 3) := by decide +kernel
theorem d6_32 : decode method_7_code 32 = .ok (.lreturn, 1) := by decide +kernel
theorem d6_33 : decode method_7_code 33 = .ok (.iload_n 0, 1) := by decide +kernel
theorem d6_34 : decode method_7_code 34 = .ok (.iconst 4, 1) := by decide +kernel
theorem d6_35 : decode method_7_code 35 = .ok (.if_icmp .ne 7, 3) := by decide +kernel
theorem d6_38 : decode method_7_code 38 = .ok (.ldc2_w 46, 3) := by decide +kernel
theorem d6_41 : decode method_7_code 41 = .ok (.lreturn, 1) := by decide +kernel
theorem d6_42 : decode method_7_code 42 = .ok (.ldc2_w 48, 3) := by decide +kernel
theorem d6_45 : decode method_7_code 45 = .ok (.lreturn, 1) := by decide +kernel
def F6 (x0 : Int32) : Int64 := if x0 = (0 : Int32) then ((1 : Int64)) else (if x0 = (1 : Int32) then ((10 : Int64)) else (if x0 = (2 : Int32) then ((100 : Int64)) else (if x0 = (3 : Int32) then ((1000 : Int64)) else (if x0 = (4 : Int32) then ((10000 : Int64)) else ((100000 : Int64))))))
set_option maxRecDepth 65536 in
set_option maxHeartbeats 40000000 in
theorem b6 {l : Launch} {Z : State} {a0 : Array Value} (hw : HW a0 Z) (x0 : Int32) {n0 : Nat} {h : Heap}  : OM l Z (⟨"com/example/kartoteka/kartoteka/iso2709/LayoutNumberPinLaw", "pow10", "(I)J"⟩ : MethodName) method_7_code 1 (some .long) ⟨0, 0, 0, 0⟩ n0 h #[(.int x0)] (fun v h' => v = some (.long (F6 x0)) ∧ h' = h) 0 0 := by
  refine OM.of_body (ls := #[.val (.int x0)]) (plainFor_of_name pn_0) (fun m => by first | rfl | simp [entryFrame, mkF, argsToLocals, Value.category]) ?_
  intro p e s m below meth c C
  refine OG.ow (OG.iloadN C d6_0 rfl (pc' := 1) rfl) ?_
  by_cases hc1 : x0 = (0 : Int32)
  · refine OG.ow (OG.ifNo C d6_1 ((if0 _ _).trans (teq hc1).2) (pc' := 4) rfl) ?_
    refine OG.ow (OG.lconst C d6_4 (z := (1 : Int64)) rfl (pc' := 5) rfl) ?_
    refine OW.retL C d6_5 (by decide) (by decide) ?_
    refine ⟨congrArg (fun z => some (Value.long z)) ?_, rfl⟩
    show _ = F6 x0
    first | (unfold F6; rw [if_pos hc1]) | (unfold F6; dsimp only; rw [if_pos hc1])
  · refine OG.ow (OG.ifYes C d6_1 ((if0 _ _).trans (feq hc1).2) (by decide) (pc' := 6) (by decide)) ?_
    refine OG.ow (OG.iloadN C d6_6 rfl (pc' := 7) rfl) ?_
    refine OG.ow (OG.iconst C d6_7 (z := (1 : Int32)) rfl (pc' := 8) rfl) ?_
    by_cases hc2 : x0 = (1 : Int32)
    · refine OG.ow (OG.icmpNo C d6_8 (teq hc2).2 (pc' := 11) rfl) ?_
      refine OG.ow (OG.ldcL C (w26 hw) d6_11 (pc' := 14) rfl) ?_
      refine OW.retL C d6_14 (by decide) (by decide) ?_
      refine ⟨congrArg (fun z => some (Value.long z)) ?_, rfl⟩
      show _ = F6 x0
      first | (unfold F6; rw [if_neg hc1, if_pos hc2]) | (unfold F6; dsimp only; rw [if_neg hc1, if_pos hc2])
    · refine OG.ow (OG.icmpYes C d6_8 (feq hc2).2 (by decide) (pc' := 15) (by decide)) ?_
      refine OG.ow (OG.iloadN C d6_15 rfl (pc' := 16) rfl) ?_
      refine OG.ow (OG.iconst C d6_16 (z := (2 : Int32)) rfl (pc' := 17) rfl) ?_
      by_cases hc3 : x0 = (2 : Int32)
      · refine OG.ow (OG.icmpNo C d6_17 (teq hc3).2 (pc' := 20) rfl) ?_
        refine OG.ow (OG.ldcL C (w25 hw) d6_20 (pc' := 23) rfl) ?_
        refine OW.retL C d6_23 (by decide) (by decide) ?_
        refine ⟨congrArg (fun z => some (Value.long z)) ?_, rfl⟩
        show _ = F6 x0
        first | (unfold F6; rw [if_neg hc1, if_neg hc2, if_pos hc3]) | (unfold F6; dsimp only; rw [if_neg hc1, if_neg hc2, if_pos hc3])
      · refine OG.ow (OG.icmpYes C d6_17 (feq hc3).2 (by decide) (pc' := 24) (by decide)) ?_
        refine OG.ow (OG.iloadN C d6_24 rfl (pc' := 25) rfl) ?_
        refine OG.ow (OG.iconst C d6_25 (z := (3 : Int32)) rfl (pc' := 26) rfl) ?_
        by_cases hc4 : x0 = (3 : Int32)
        · refine OG.ow (OG.icmpNo C d6_26 (teq hc4).2 (pc' := 29) rfl) ?_
          refine OG.ow (OG.ldcL C (w24 hw) d6_29 (pc' := 32) rfl) ?_
          refine OW.retL C d6_32 (by decide) (by decide) ?_
          refine ⟨congrArg (fun z => some (Value.long z)) ?_, rfl⟩
          show _ = F6 x0
          first | (unfold F6; rw [if_neg hc1, if_neg hc2, if_neg hc3, if_pos hc4]) | (unfold F6; dsimp only; rw [if_neg hc1, if_neg hc2, if_neg hc3, if_pos hc4])
        · refine OG.ow (OG.icmpYes C d6_26 (feq hc4).2 (by decide) (pc' := 33) (by decide)) ?_
          refine OG.ow (OG.iloadN C d6_33 rfl (pc' := 34) rfl) ?_
          refine OG.ow (OG.iconst C d6_34 (z := (4 : Int32)) rfl (pc' := 35) rfl) ?_
          by_cases hc5 : x0 = (4 : Int32)
          · refine OG.ow (OG.icmpNo C d6_35 (teq hc5).2 (pc' := 38) rfl) ?_
            refine OG.ow (OG.ldcL C (w27 hw) d6_38 (pc' := 41) rfl) ?_
            refine OW.retL C d6_41 (by decide) (by decide) ?_
            refine ⟨congrArg (fun z => some (Value.long z)) ?_, rfl⟩
            show _ = F6 x0
            first | (unfold F6; rw [if_neg hc1, if_neg hc2, if_neg hc3, if_neg hc4, if_pos hc5]) | (unfold F6; dsimp only; rw [if_neg hc1, if_neg hc2, if_neg hc3, if_neg hc4, if_pos hc5])
          · refine OG.ow (OG.icmpYes C d6_35 (feq hc5).2 (by decide) (pc' := 42) (by decide)) ?_
            refine OG.ow (OG.ldcL C (w28 hw) d6_42 (pc' := 45) rfl) ?_
            refine OW.retL C d6_45 (by decide) (by decide) ?_
            refine ⟨congrArg (fun z => some (Value.long z)) ?_, rfl⟩
            show _ = F6 x0
            first | (unfold F6; rw [if_neg hc1, if_neg hc2, if_neg hc3, if_neg hc4, if_neg hc5]) | (unfold F6; dsimp only; rw [if_neg hc1, if_neg hc2, if_neg hc3, if_neg hc4, if_neg hc5])
theorem d3_0 : decode method_5_code 0 = .ok (.iload_n 1, 1) := by decide +kernel
theorem d3_1 : decode method_5_code 1 = .ok (.iload_n 2, 1) := by decide +kernel
theorem d3_2 : decode method_5_code 2 = .ok (.iload_n 3, 1) := by decide +kernel
theorem d3_3 : decode method_5_code 3 = .ok (.invokestatic 32, 3) := by decide +kernel
theorem d3_6 : decode method_5_code 6 = .ok (.ifCond .ne 5, 3) := by decide +kernel
theorem d3_9 : decode method_5_code 9 = .ok (.iconst 0, 1) := by decide +kernel
theorem d3_10 : decode method_5_code 10 = .ok (.ireturn, 1) := by decide +kernel
theorem d3_11 : decode method_5_code 11 = .ok (.iload_n 0, 1) := by decide +kernel
theorem d3_12 : decode method_5_code 12 = .ok (.bipush 48, 2) := by decide +kernel
theorem d3_14 : decode method_5_code 14 = .ok (.if_icmp .lt 9, 3) := by decide +kernel
theorem d3_17 : decode method_5_code 17 = .ok (.iload_n 0, 1) := by decide +kernel
theorem d3_18 : decode method_5_code 18 = .ok (.bipush 57, 2) := by decide +kernel
theorem d3_20 : decode method_5_code 20 = .ok (.if_icmp .le 7, 3) := by decide +kernel
theorem d3_23 : decode method_5_code 23 = .ok (.iconst 1, 1) := by decide +kernel
theorem d3_24 : decode method_5_code 24 = .ok (.goto 4, 3) := by decide +kernel
theorem d3_27 : decode method_5_code 27 = .ok (.iconst 0, 1) := by decide +kernel
theorem d3_28 : decode method_5_code 28 = .ok (.ireturn, 1) := by decide +kernel
def F3 (x0 : Int32) (x1 : Int32) (x2 : Int32) (x3 : Int32) : Int32 := if (nar .boolean (F4 x1 x2 x3)) = (0 : Int32) then ((0 : Int32)) else ((if x0 < (48 : Int32) then (1 : Int32) else (if (57 : Int32) < x0 then (1 : Int32) else (0 : Int32))))
set_option maxRecDepth 65536 in
set_option maxHeartbeats 40000000 in
theorem b3 {l : Launch} {Z : State} {a0 : Array Value} (hw : HW a0 Z) (x0 : Int32) (x1 : Int32) (x2 : Int32) (x3 : Int32) {n0 : Nat} {h : Heap}  : OM l Z (⟨"com/example/kartoteka/kartoteka/iso2709/LayoutNumberPinLaw", "bad", "(BIII)Z"⟩ : MethodName) method_5_code 4 (some .boolean) ⟨1, 0, 0, 14⟩ n0 h #[(.int x0), (.int x1), (.int x2), (.int x3)] (fun v h' => v = some (.int (nar .boolean (F3 x0 x1 x2 x3))) ∧ h' = h) 0 0 := by
  refine OM.of_body (ls := #[.val (.int x0), .val (.int x1), .val (.int x2), .val (.int x3)]) (plainFor_of_name pn_0) (fun m => by first | rfl | simp [entryFrame, mkF, argsToLocals, Value.category]) ?_
  intro p e s m below meth c C
  refine OG.ow (OG.iloadN C d3_0 rfl (pc' := 1) rfl) ?_
  refine OG.ow (OG.iloadN C d3_1 rfl (pc' := 2) rfl) ?_
  refine OG.ow (OG.iloadN C d3_2 rfl (pc' := 3) rfl) ?_
  refine OG.ow (OG.callS C (w14 hw) (w15 hw) (w4 hw) (w16 hw) (by decide) (b4 hw x1 x2 x3) d3_3 pd_0 rfl (argsL := [(.int x1), (.int x2), (.int x3)]) (rest := []) rfl rfl (W := 0) rfl (by decide) (by decide) (pc' := 6) rfl) ?_
  by_cases hc1 : (nar .boolean (F4 x1 x2 x3)) = (0 : Int32)
  · refine OG.ow (OG.ifNo C d3_6 ((if0 _ _).trans (teq hc1).2) (pc' := 9) rfl) ?_
    refine OG.ow (OG.iconst C d3_9 (z := (0 : Int32)) rfl (pc' := 10) rfl) ?_
    refine OW.retN (t := .boolean) C (by simp) d3_10 (by decide) (by decide) ?_
    refine ⟨congrArg (fun z => some (Value.int (nar .boolean z))) ?_, rfl⟩
    show _ = F3 x0 x1 x2 x3
    first | (unfold F3; rw [if_pos hc1]) | (unfold F3; dsimp only; rw [if_pos hc1])
  · refine OG.ow (OG.ifYes C d3_6 ((if0 _ _).trans (feq hc1).2) (by decide) (pc' := 11) (by decide)) ?_
    refine OG.ow (OG.iloadN C d3_11 rfl (pc' := 12) rfl) ?_
    refine OG.ow (OG.bipush C d3_12 (z := (48 : Int32)) (by decide) (pc' := 14) rfl) ?_
    refine OG.ow (OG.ite (α := Int32) (P := x0 < (48 : Int32)) (f := fun v => (mkF m 28 #[.val (.int x0), .val (.int x1), .val (.int x2), .val (.int x3)] [(.int v)])) (x := (1 : Int32)) (y := (if (57 : Int32) < x0 then (1 : Int32) else (0 : Int32))) (fun hc => ?_) (fun hc => ?_)) ?_
    · refine OG.trans (OG.icmpYes C d3_14 (tlt hc).1 (by decide) (pc' := 23) (by decide)) ?_
      refine OG.trans (OG.iconst C d3_23 (z := (1 : Int32)) rfl (pc' := 24) rfl) ?_
      refine OG.trans (OG.goto C d3_24 (by decide) (pc' := 28) (by decide)) ?_
      exact OG.refl
    · refine OG.trans (OG.icmpNo C d3_14 (flt hc).1 (pc' := 17) rfl) ?_
      refine OG.trans (OG.iloadN C d3_17 rfl (pc' := 18) rfl) ?_
      refine OG.trans (OG.bipush C d3_18 (z := (57 : Int32)) (by decide) (pc' := 20) rfl) ?_
      refine OG.trans (OG.ite (α := Int32) (P := (57 : Int32) < x0) (f := fun v => (mkF m 28 #[.val (.int x0), .val (.int x1), .val (.int x2), .val (.int x3)] [(.int v)])) (x := (1 : Int32)) (y := (0 : Int32)) (fun hc => ?_) (fun hc => ?_)) ?_
      · refine OG.trans (OG.icmpNo C d3_20 (tlt hc).2.2.2 (pc' := 23) rfl) ?_
        refine OG.trans (OG.iconst C d3_23 (z := (1 : Int32)) rfl (pc' := 24) rfl) ?_
        refine OG.trans (OG.goto C d3_24 (by decide) (pc' := 28) (by decide)) ?_
        exact OG.refl
      · refine OG.trans (OG.icmpYes C d3_20 (flt hc).2.2.2 (by decide) (pc' := 27) (by decide)) ?_
        refine OG.trans (OG.iconst C d3_27 (z := (0 : Int32)) rfl (pc' := 28) rfl) ?_
        exact OG.refl
      exact OG.refl
    refine OW.retN (t := .boolean) C (by simp) d3_28 (by decide) (by decide) ?_
    refine ⟨congrArg (fun z => some (Value.int (nar .boolean z))) ?_, rfl⟩
    show _ = F3 x0 x1 x2 x3
    first | (unfold F3; rw [if_neg hc1]) | (unfold F3; dsimp only; rw [if_neg hc1])
theorem d5_0 : decode method_6_code 0 = .ok (.iload_n 1, 1) := by decide +kernel
theorem d5_1 : decode method_6_code 1 = .ok (.iload_n 2, 1) := by decide +kernel
theorem d5_2 : decode method_6_code 2 = .ok (.iload_n 3, 1) := by decide +kernel
theorem d5_3 : decode method_6_code 3 = .ok (.invokestatic 32, 3) := by decide +kernel
theorem d5_6 : decode method_6_code 6 = .ok (.ifCond .ne 5, 3) := by decide +kernel
theorem d5_9 : decode method_6_code 9 = .ok (.lconst 0, 1) := by decide +kernel
theorem d5_10 : decode method_6_code 10 = .ok (.lreturn, 1) := by decide +kernel
theorem d5_11 : decode method_6_code 11 = .ok (.iload_n 0, 1) := by decide +kernel
theorem d5_12 : decode method_6_code 12 = .ok (.bipush 48, 2) := by decide +kernel
theorem d5_14 : decode method_6_code 14 = .ok (.isub, 1) := by decide +kernel
theorem d5_15 : decode method_6_code 15 = .ok (.i2l, 1) := by decide +kernel
theorem d5_16 : decode method_6_code 16 = .ok (.iload_n 3, 1) := by decide +kernel
theorem d5_17 : decode method_6_code 17 = .ok (.iconst 1, 1) := by decide +kernel
theorem d5_18 : decode method_6_code 18 = .ok (.isub, 1) := by decide +kernel
theorem d5_19 : decode method_6_code 19 = .ok (.iload_n 1, 1) := by decide +kernel
theorem d5_20 : decode method_6_code 20 = .ok (.isub, 1) := by decide +kernel
theorem d5_21 : decode method_6_code 21 = .ok (.invokestatic 36, 3) := by decide +kernel
theorem d5_24 : decode method_6_code 24 = .ok (.lmul, 1) := by decide +kernel
theorem d5_25 : decode method_6_code 25 = .ok (.lreturn, 1) := by decide +kernel
def F5 (x0 : Int32) (x1 : Int32) (x2 : Int32) (x3 : Int32) : Int64 := if (nar .boolean (F4 x1 x2 x3)) = (0 : Int32) then ((0 : Int64)) else (((x0 - (48 : Int32)).toInt64 * (F6 ((x3 - (1 : Int32)) - x1))))
set_option maxRecDepth 65536 in
set_option maxHeartbeats 40000000 in
theorem b5 {l : Launch} {Z : State} {a0 : Array Value} (hw : HW a0 Z) (x0 : Int32) (x1 : Int32) (x2 : Int32) (x3 : Int32) {n0 : Nat} {h : Heap}  : OM l Z (⟨"com/example/kartoteka/kartoteka/iso2709/LayoutNumberPinLaw", "value", "(BIII)J"⟩ : MethodName) method_6_code 4 (some .long) ⟨1, 0, 0, 14⟩ n0 h #[(.int x0), (.int x1), (.int x2), (.int x3)] (fun v h' => v = some (.long (F5 x0 x1 x2 x3)) ∧ h' = h) 0 0 := by
  refine OM.of_body (ls := #[.val (.int x0), .val (.int x1), .val (.int x2), .val (.int x3)]) (plainFor_of_name pn_0) (fun m => by first | rfl | simp [entryFrame, mkF, argsToLocals, Value.category]) ?_
  intro p e s m below meth c C
  refine OG.ow (OG.iloadN C d5_0 rfl (pc' := 1) rfl) ?_
  refine OG.ow (OG.iloadN C d5_1 rfl (pc' := 2) rfl) ?_
  refine OG.ow (OG.iloadN C d5_2 rfl (pc' := 3) rfl) ?_
  refine OG.ow (OG.callS C (w14 hw) (w15 hw) (w4 hw) (w16 hw) (by decide) (b4 hw x1 x2 x3) d5_3 pd_0 rfl (argsL := [(.int x1), (.int x2), (.int x3)]) (rest := []) rfl rfl (W := 0) rfl (by decide) (by decide) (pc' := 6) rfl) ?_
  by_cases hc1 : (nar .boolean (F4 x1 x2 x3)) = (0 : Int32)
  · refine OG.ow (OG.ifNo C d5_6 ((if0 _ _).trans (teq hc1).2) (pc' := 9) rfl) ?_
    refine OG.ow (OG.lconst C d5_9 (z := (0 : Int64)) rfl (pc' := 10) rfl) ?_
    refine OW.retL C d5_10 (by decide) (by decide) ?_
    refine ⟨congrArg (fun z => some (Value.long z)) ?_, rfl⟩
    show _ = F5 x0 x1 x2 x3
    first | (unfold F5; rw [if_pos hc1]) | (unfold F5; dsimp only; rw [if_pos hc1])
  · refine OG.ow (OG.ifYes C d5_6 ((if0 _ _).trans (feq hc1).2) (by decide) (pc' := 11) (by decide)) ?_
    refine OG.ow (OG.iloadN C d5_11 rfl (pc' := 12) rfl) ?_
    refine OG.ow (OG.bipush C d5_12 (z := (48 : Int32)) (by decide) (pc' := 14) rfl) ?_
    refine OG.ow (OG.isub C d5_14 (pc' := 15) rfl) ?_
    refine OG.ow (OG.i2l C d5_15 (pc' := 16) rfl) ?_
    refine OG.ow (OG.iloadN C d5_16 rfl (pc' := 17) rfl) ?_
    refine OG.ow (OG.iconst C d5_17 (z := (1 : Int32)) rfl (pc' := 18) rfl) ?_
    refine OG.ow (OG.isub C d5_18 (pc' := 19) rfl) ?_
    refine OG.ow (OG.iloadN C d5_19 rfl (pc' := 20) rfl) ?_
    refine OG.ow (OG.isub C d5_20 (pc' := 21) rfl) ?_
    refine OG.ow (OG.callS C (w21 hw) (w22 hw) (w4 hw) (w23 hw) (by decide) (b6 hw ((x3 - (1 : Int32)) - x1)) d5_21 pd_1 rfl (argsL := [(.int ((x3 - (1 : Int32)) - x1))]) (rest := [(.long (x0 - (48 : Int32)).toInt64)]) rfl rfl (W := 2) rfl (by decide) (by decide) (pc' := 24) rfl) ?_
    refine OG.ow (OG.lmul C d5_24 (pc' := 25) rfl) ?_
    refine OW.retL C d5_25 (by decide) (by decide) ?_
    refine ⟨congrArg (fun z => some (Value.long z)) ?_, rfl⟩
    show _ = F5 x0 x1 x2 x3
    first | (unfold F5; rw [if_neg hc1]) | (unfold F5; dsimp only; rw [if_neg hc1])
theorem d2_0 : decode prog_55_method_6_code 0 = .ok (.iconst 0, 1) := by decide +kernel
theorem d2_1 : decode prog_55_method_6_code 1 = .ok (.istore_n 3, 1) := by decide +kernel
theorem d2_2 : decode prog_55_method_6_code 2 = .ok (.iload_n 1, 1) := by decide +kernel
theorem d2_3 : decode prog_55_method_6_code 3 = .ok (.istore 4, 2) := by decide +kernel
theorem d2_5 : decode prog_55_method_6_code 5 = .ok (.iload 4, 2) := by decide +kernel
theorem d2_7 : decode prog_55_method_6_code 7 = .ok (.iload_n 1, 1) := by decide +kernel
theorem d2_8 : decode prog_55_method_6_code 8 = .ok (.iload_n 2, 1) := by decide +kernel
theorem d2_9 : decode prog_55_method_6_code 9 = .ok (.iadd, 1) := by decide +kernel
theorem d2_10 : decode prog_55_method_6_code 10 = .ok (.if_icmp .ge 42, 3) := by decide +kernel
theorem d2_13 : decode prog_55_method_6_code 13 = .ok (.aload_n 0, 1) := by decide +kernel
theorem d2_14 : decode prog_55_method_6_code 14 = .ok (.iload 4, 2) := by decide +kernel
theorem d2_16 : decode prog_55_method_6_code 16 = .ok (.baload, 1) := by decide +kernel
theorem d2_17 : decode prog_55_method_6_code 17 = .ok (.bipush 48, 2) := by decide +kernel
theorem d2_19 : decode prog_55_method_6_code 19 = .ok (.if_icmp .lt 12, 3) := by decide +kernel
theorem d2_22 : decode prog_55_method_6_code 22 = .ok (.aload_n 0, 1) := by decide +kernel
theorem d2_23 : decode prog_55_method_6_code 23 = .ok (.iload 4, 2) := by decide +kernel
theorem d2_25 : decode prog_55_method_6_code 25 = .ok (.baload, 1) := by decide +kernel
theorem d2_26 : decode prog_55_method_6_code 26 = .ok (.bipush 57, 2) := by decide +kernel
theorem d2_28 : decode prog_55_method_6_code 28 = .ok (.if_icmp .le 5, 3) := by decide +kernel
theorem d2_31 : decode prog_55_method_6_code 31 = .ok (.iconst (-1), 1) := by decide +kernel
theorem d2_32 : decode prog_55_method_6_code 32 = .ok (.ireturn, 1) := by decide +kernel
theorem d2_33 : decode prog_55_method_6_code 33 = .ok (.iload_n 3, 1) := by decide +kernel
theorem d2_34 : decode prog_55_method_6_code 34 = .ok (.bipush 10, 2) := by decide +kernel
theorem d2_36 : decode prog_55_method_6_code 36 = .ok (.imul, 1) := by decide +kernel
theorem d2_37 : decode prog_55_method_6_code 37 = .ok (.aload_n 0, 1) := by decide +kernel
theorem d2_38 : decode prog_55_method_6_code 38 = .ok (.iload 4, 2) := by decide +kernel
theorem d2_40 : decode prog_55_method_6_code 40 = .ok (.baload, 1) := by decide +kernel
theorem d2_41 : decode prog_55_method_6_code 41 = .ok (.iadd, 1) := by decide +kernel
theorem d2_42 : decode prog_55_method_6_code 42 = .ok (.bipush 48, 2) := by decide +kernel
theorem d2_44 : decode prog_55_method_6_code 44 = .ok (.isub, 1) := by decide +kernel
theorem d2_45 : decode prog_55_method_6_code 45 = .ok (.istore_n 3, 1) := by decide +kernel
theorem d2_46 : decode prog_55_method_6_code 46 = .ok (.iinc 4 1, 3) := by decide +kernel
theorem d2_49 : decode prog_55_method_6_code 49 = .ok (.goto (-44), 3) := by decide +kernel
theorem d2_52 : decode prog_55_method_6_code 52 = .ok (.iload_n 3, 1) := by decide +kernel
theorem d2_53 : decode prog_55_method_6_code 53 = .ok (.ireturn, 1) := by decide +kernel
def NUM (vs : List Int32) : Nat → Nat → Int32 → Int32
  | 0, _, acc => acc
  | k + 1, i, acc => if vs.getD i 0 < (48 : Int32) then (-1 : Int32) else if (57 : Int32) < vs.getD i 0 then (-1 : Int32) else NUM vs k (i + 1) (((acc * (10 : Int32)) + vs.getD i 0) - (48 : Int32))
theorem own_at (vs : List Int32) {i : Int32} {I : Nat} (hi : i.toInt = I) (hI : I < vs.length) : (vs.map Value.int)[i.toNatClampNeg]? = some (.int (vs.getD I 0)) := by
  have e : i.toNatClampNeg = I := by simp only [Int32.toNatClampNeg, hi]; omega
  rw [e]
  simp [hI]
theorem own_inc {i : Int32} {I : Nat} (hi : i.toInt = I) (hI : I < 1000) : (i + (1 : Int32)).toInt = ((I + 1 : Nat) : Int) := by
  have h1 := c_iadd i 1
  have h2 := rng32 (i + 1)
  have e : (1 : Int32).toInt = 1 := by decide
  omega
theorem own_end {x y : Int32} (h1 : 0 ≤ x.toInt) (h2 : 0 ≤ y.toInt) (h3 : x.toInt + y.toInt < 1000) : (x + y).toInt = x.toInt + y.toInt := by
  have h1 := c_iadd x y
  have h2 := rng32 (x + y)
  omega
theorem own_cc (x cc : Int32) (h : ((x &&& (2147483647 : Int32)) % (7 : Int32)) = cc) : 0 ≤ cc.toInt ∧ cc.toInt ≤ 6 := by
  have e := c_mask x 2147483647 31 (by decide) (by decide)
  generalize (x &&& (2147483647 : Int32)) = z at *
  subst h
  have := (c_irem z 7 7 (by decide)).1 (by omega)
  omega
theorem own_ff (x cc ff : Int32) (r2 : 0 ≤ cc.toInt) (r4 : cc.toInt ≤ 6) (h : ((x &&& (2147483647 : Int32)) % ((7 : Int32) - cc)) = ff) : 0 ≤ ff.toInt ∧ ff.toInt + cc.toInt ≤ 6 := by
  have e := c_mask x 2147483647 31 (by decide) (by decide)
  generalize (x &&& (2147483647 : Int32)) = z at *
  have h1 := c_isub 7 cc
  have h2 := rng32 (7 - cc)
  have e7 : (7 : Int32).toInt = 7 := by decide
  subst h
  have := (c_iremV z (7 - cc)).1 (by omega) (by omega)
  omega
theorem own_7 {cc : Int32} (r2 : 0 ≤ cc.toInt) (r4 : cc.toInt ≤ 6) : ((7 : Int32) - cc) ≠ 0 := by
  intro q
  have h1 := c_isub 7 cc
  rw [q] at h1
  have e7 : (7 : Int32).toInt = 7 := by decide
  have e0 : (0 : Int32).toInt = 0 := by decide
  omega
theorem own_byte {x b : Int32} (h : nar .byte x = b) : nar .byte b = b ∧ (-128 ≤ b.toInt ∧ b.toInt ≤ 127) := by
  have e : nar .byte x = x.toInt8.toInt32 := rfl
  have q := c_i2b x
  subst h
  rw [e] at *
  have q2 := c_i2b x.toInt8.toInt32
  refine ⟨?_, by omega⟩
  show x.toInt8.toInt32.toInt8.toInt32 = _
  apply Int32.toInt_inj.mp
  omega
set_option maxRecDepth 65536 in
set_option maxHeartbeats 40000000 in
theorem lp {l : Launch} {Z : State} {a0 : Array Value} (hw : HW a0 Z) {p : Program} {e : Env} {R : Room} {s : State} {m : MethodId} {args : Array Value} {below : List Frame} {meth : Method} {c : Code} {n0 K N cl sl : Nat} {h : Heap} {Q : Option Value → Heap → Prop} (C : OC p s m meth c Z "com/example/kartoteka/kartoteka/iso2709/Layout" "number" prog_55_method_6_code 5 (some .int)) (hK : cl ≤ K) (hN : sl ≤ N) (x0 : Addr) (x1 x2 : Int32) (vs : List Int32) (hl : vs.length < 1000) (F : OA Z h x0 .byte (vs.map Value.int)) (he : (x1 + x2).toInt ≤ vs.length) (k : Nat) : ∀ (acc i : Int32) (I : Nat), i.toInt = I → (I : Int) + k = (x1 + x2).toInt → Q (some (.int (NUM vs k I acc))) h → OW p l e R s m args below meth c n0 Q K N h cl sl (mkF m 5 #[.val (.ref x0), .val (.int x1), .val (.int x2), .val (.int acc), .val (.int i)] []) := by
  induction k with
  | zero =>
    intro acc i I hi hk hQ
    have hz : ¬ i < (x1 + x2) := by rw [Int32.lt_iff_toInt_lt]; omega
    refine OG.ow (OG.iload C d2_5 rfl (pc' := 7) rfl) ?_
    refine OG.ow (OG.iloadN C d2_7 rfl (pc' := 8) rfl) ?_
    refine OG.ow (OG.iloadN C d2_8 rfl (pc' := 9) rfl) ?_
    refine OG.ow (OG.iadd C d2_9 (pc' := 10) rfl) ?_
    refine OG.ow (OG.icmpYes C d2_10 (flt hz).2.1 (by decide) (pc' := 52) (by decide)) ?_
    refine OG.ow (OG.iloadN C d2_52 rfl (pc' := 53) rfl) ?_
    refine OW.retI C d2_53 hK hN ?_
    exact hQ
  | succ k ih =>
    intro acc i I hi hk hQ
    have hz : i < (x1 + x2) := by rw [Int32.lt_iff_toInt_lt]; omega
    have hin : 0 ≤ i.toInt ∧ i.toInt < (vs.map Value.int).length := by simp only [List.length_map]; omega
    have hat := own_at vs hi (by omega)
    unfold NUM at hQ
    generalize vs.getD I 0 = b at hat hQ
    refine OG.ow (OG.iload C d2_5 rfl (pc' := 7) rfl) ?_
    refine OG.ow (OG.iloadN C d2_7 rfl (pc' := 8) rfl) ?_
    refine OG.ow (OG.iloadN C d2_8 rfl (pc' := 9) rfl) ?_
    refine OG.ow (OG.iadd C d2_9 (pc' := 10) rfl) ?_
    refine OG.ow (OG.icmpNo C d2_10 (tlt hz).2.1 (pc' := 13) rfl) ?_
    refine OG.ow (OG.aloadN C d2_13 rfl rfl (pc' := 14) rfl) ?_
    refine OG.ow (OG.iload C d2_14 rfl (pc' := 16) rfl) ?_
    refine OG.ow (OG.baload C F hin hat d2_16 (pc' := 17) rfl) ?_
    refine OG.ow (OG.bipush C d2_17 (z := (48 : Int32)) (by decide) (pc' := 19) rfl) ?_
    by_cases hc1 : b < (48 : Int32)
    · refine OG.ow (OG.icmpYes C d2_19 (tlt hc1).1 (by decide) (pc' := 31) (by decide)) ?_
      refine OG.ow (OG.iconst C d2_31 (z := (-1 : Int32)) rfl (pc' := 32) rfl) ?_
      refine OW.retI C d2_32 hK hN ?_
      rw [if_pos hc1] at hQ
      exact hQ
    · refine OG.ow (OG.icmpNo C d2_19 (flt hc1).1 (pc' := 22) rfl) ?_
      refine OG.ow (OG.aloadN C d2_22 rfl rfl (pc' := 23) rfl) ?_
      refine OG.ow (OG.iload C d2_23 rfl (pc' := 25) rfl) ?_
      refine OG.ow (OG.baload C F hin hat d2_25 (pc' := 26) rfl) ?_
      refine OG.ow (OG.bipush C d2_26 (z := (57 : Int32)) (by decide) (pc' := 28) rfl) ?_
      by_cases hc2 : (57 : Int32) < b
      · refine OG.ow (OG.icmpNo C d2_28 (tlt hc2).2.2.2 (pc' := 31) rfl) ?_
        refine OG.ow (OG.iconst C d2_31 (z := (-1 : Int32)) rfl (pc' := 32) rfl) ?_
        refine OW.retI C d2_32 hK hN ?_
        rw [if_neg hc1, if_pos hc2] at hQ
        exact hQ
      · refine OG.ow (OG.icmpYes C d2_28 (flt hc2).2.2.2 (by decide) (pc' := 33) (by decide)) ?_
        refine OG.ow (OG.iloadN C d2_33 rfl (pc' := 34) rfl) ?_
        refine OG.ow (OG.bipush C d2_34 (z := (10 : Int32)) (by decide) (pc' := 36) rfl) ?_
        refine OG.ow (OG.imul C d2_36 (pc' := 37) rfl) ?_
        refine OG.ow (OG.aloadN C d2_37 rfl rfl (pc' := 38) rfl) ?_
        refine OG.ow (OG.iload C d2_38 rfl (pc' := 40) rfl) ?_
        refine OG.ow (OG.baload C F hin hat d2_40 (pc' := 41) rfl) ?_
        refine OG.ow (OG.iadd C d2_41 (pc' := 42) rfl) ?_
        refine OG.ow (OG.bipush C d2_42 (z := (48 : Int32)) (by decide) (pc' := 44) rfl) ?_
        refine OG.ow (OG.isub C d2_44 (pc' := 45) rfl) ?_
        refine OG.ow (OG.istoreN C d2_45 (ls' := #[.val (.ref x0), .val (.int x1), .val (.int x2), .val (.int (((acc * (10 : Int32)) + b) - (48 : Int32))), .val (.int i)]) rfl (pc' := 46) rfl) ?_
        refine OG.ow (OG.iinc C d2_46 (z := (1 : Int32)) rfl rfl (ls' := #[.val (.ref x0), .val (.int x1), .val (.int x2), .val (.int (((acc * (10 : Int32)) + b) - (48 : Int32))), .val (.int (i + (1 : Int32)))]) rfl (pc' := 49) rfl) ?_
        refine OG.ow (OG.goto C d2_49 (by decide) (pc' := 5) (by decide)) ?_
        rw [if_neg hc1, if_neg hc2] at hQ
        refine ih (((acc * (10 : Int32)) + b) - (48 : Int32)) (i + (1 : Int32)) (I + 1) (own_inc hi (by omega)) (by omega) hQ
set_option maxRecDepth 65536 in
set_option maxHeartbeats 40000000 in
theorem bN {l : Launch} {Z : State} {a0 : Array Value} (hw : HW a0 Z) (x0 : Addr) (x1 : Int32) (x2 : Int32) {n0 : Nat} {h : Heap} (vs : List Int32) (hl : vs.length < 1000) (F : OA Z h x0 .byte (vs.map Value.int)) (h1 : 0 ≤ x1.toInt) (h2 : 0 ≤ x2.toInt) (h3 : x1.toInt + x2.toInt ≤ vs.length) : OM l Z (⟨"com/example/kartoteka/kartoteka/iso2709/Layout", "number", "([BII)I"⟩ : MethodName) prog_55_method_6_code 5 (some .int) ⟨0, 0, 0, 0⟩ n0 h #[(.ref x0), (.int x1), (.int x2)] (fun v h' => v = some (.int (NUM vs x2.toInt.toNat x1.toInt.toNat 0)) ∧ h' = h) 0 0 := by
  have he := own_end h1 h2 (Int.lt_of_le_of_lt h3 (by omega))
  have hx : (x1 + x2).toInt ≤ vs.length := by omega
  refine OM.of_body (ls := #[.val (.ref x0), .val (.int x1), .val (.int x2), .unset, .unset]) (plainFor_of_name pn_1) (fun m => by first | rfl | simp [entryFrame, mkF, argsToLocals, Value.category]) ?_
  intro p e s m below meth c C
  refine OG.ow (OG.iconst C d2_0 (z := (0 : Int32)) rfl (pc' := 1) rfl) ?_
  refine OG.ow (OG.istoreN C d2_1 (ls' := #[.val (.ref x0), .val (.int x1), .val (.int x2), .val (.int (0 : Int32)), .unset]) rfl (pc' := 2) rfl) ?_
  refine OG.ow (OG.iloadN C d2_2 rfl (pc' := 3) rfl) ?_
  refine OG.ow (OG.istore C d2_3 (ls' := #[.val (.ref x0), .val (.int x1), .val (.int x2), .val (.int (0 : Int32)), .val (.int x1)]) rfl (pc' := 5) rfl) ?_
  exact lp hw C (by decide) (by decide) x0 x1 x2 vs hl F hx x2.toInt.toNat _ _ x1.toInt.toNat (by omega) (by omega) ⟨rfl, rfl⟩
theorem own_F4 (i f e : Int32) : nar .boolean (F4 i f e) = 0 ↔ ¬ (¬ i < f ∧ i < e) := by
  by_cases h1 : i < f <;> by_cases h2 : i < e <;> simp only [F4, h1, h2, if_true, if_false] <;> decide
theorem own_F3 (b i f e : Int32) : nar .boolean (F3 b i f e) = 0 ↔ ¬ ((¬ i < f ∧ i < e) ∧ (b < 48 ∨ 57 < b)) := by
  unfold F3
  by_cases h : nar .boolean (F4 i f e) = 0
  · rw [if_pos h]
    rw [own_F4] at h
    constructor
    · intro _ q; exact h q.1
    · intro _; decide
  · rw [if_neg h]
    rw [own_F4, Classical.not_not] at h
    by_cases h1 : b < 48 <;> by_cases h2 : 57 < b <;> simp only [h1, h2, h, if_true, if_false, true_and, or_true, true_or, or_false, not_true, not_false_iff, iff_true, iff_false, not_and] <;> decide
def NZ (vs : List Int32) : Nat → Nat → Int → Int
  | 0, _, A => A
  | k + 1, i, A => NZ vs k (i + 1) (A * 10 + (vs.getD i 0).toInt - 48)
theorem own_st {acc b : Int32} {A : Int} (ha : acc.toInt = A) (h0 : 0 ≤ A) (h1 : A ≤ 1000000) (hb : 48 ≤ b.toInt ∧ b.toInt ≤ 57) : (((acc * (10 : Int32)) + b) - (48 : Int32)).toInt = A * 10 + b.toInt - 48 := by
  have a1 := c_imul acc 10
  have a2 := rng32 (acc * 10)
  have a3 := c_iadd (acc * 10) b
  have a4 := rng32 (acc * 10 + b)
  have a5 := c_isub (acc * 10 + b) 48
  have a6 := rng32 (acc * 10 + b - 48)
  have e1 : (10 : Int32).toInt = 10 := by decide
  have e2 : (48 : Int32).toInt = 48 := by decide
  rw [e1] at a1
  omega
theorem own_good {b : Int32} (h : 48 ≤ b.toInt ∧ b.toInt ≤ 57) : ¬ b < 48 ∧ ¬ 57 < b := by
  have e1 : (57 : Int32).toInt = 57 := by decide
  have e2 : (48 : Int32).toInt = 48 := by decide
  rw [Int32.lt_iff_toInt_lt, Int32.lt_iff_toInt_lt]
  omega
theorem own_good' {b : Int32} (h : ¬ (b < 48 ∨ 57 < b)) : 48 ≤ b.toInt ∧ b.toInt ≤ 57 := by
  have e1 : (57 : Int32).toInt = 57 := by decide
  have e2 : (48 : Int32).toInt = 48 := by decide
  rw [Int32.lt_iff_toInt_lt, Int32.lt_iff_toInt_lt] at h
  omega
theorem own_nz (vs : List Int32) (k : Nat) : ∀ (i : Nat) (acc : Int32) (A : Int), acc.toInt = A → 0 ≤ A → (A + 1) * 10 ^ k ≤ 1000000 → (∀ j, i ≤ j → j < i + k → 48 ≤ (vs.getD j 0).toInt ∧ (vs.getD j 0).toInt ≤ 57) → (NUM vs k i acc).toInt = NZ vs k i A := by
  induction k with
  | zero => intro i acc A ha _ _ _; exact ha
  | succ k ih =>
    intro i acc A ha h0 h1 hg
    have hb := hg i (Nat.le_refl _) (by omega)
    unfold NUM NZ
    rw [if_neg (own_good hb).1, if_neg (own_good hb).2]
    have hp : (1 : Int) ≤ 10 ^ k := by
      have : (1 : Nat) ≤ 10 ^ k := Nat.one_le_pow _ _ (by decide)
      exact_mod_cast this
    have hs : (10 : Int) ^ (k + 1) = 10 ^ k * 10 := Int.pow_succ 10 k
    rw [hs] at h1
    have h1' : (A * 10 + 10) * 10 ^ k ≤ 1000000 := by
      have : (A + 1) * (10 ^ k * 10) = (A * 10 + 10) * 10 ^ k := by
        rw [Int.mul_comm (10 ^ k) 10, ← Int.mul_assoc]; congr 1; omega
      omega
    have hA : A ≤ 1000000 := by
      have : (A * 10 + 10) * 1 ≤ (A * 10 + 10) * 10 ^ k := Int.mul_le_mul_of_nonneg_left hp (by omega)
      omega
    refine ih (i + 1) _ _ (own_st ha h0 hA hb) (by omega) ?_ (fun j q1 q2 => hg j (by omega) (by omega))
    have : (A * 10 + (vs.getD i 0).toInt - 48 + 1) * 10 ^ k ≤ (A * 10 + 10) * 10 ^ k := Int.mul_le_mul_of_nonneg_right (by omega) (by omega)
    omega
theorem own_bad (vs : List Int32) (k : Nat) : ∀ (i : Nat) (acc : Int32), (∃ j, i ≤ j ∧ j < i + k ∧ (vs.getD j 0 < 48 ∨ 57 < vs.getD j 0)) → NUM vs k i acc = -1 := by
  induction k with
  | zero => intro i acc ⟨j, h1, h2, _⟩; omega
  | succ k ih =>
    intro i acc ⟨j, h1, h2, h3⟩
    unfold NUM
    by_cases q1 : vs.getD i 0 < 48
    · rw [if_pos q1]
    · rw [if_neg q1]
      by_cases q2 : 57 < vs.getD i 0
      · rw [if_pos q2]
      · rw [if_neg q2]
        refine ih _ _ ⟨j, ?_, by omega, h3⟩
        rcases Nat.lt_or_ge i j with q | q
        · exact q
        · have : i = j := by omega
          subst this
          rcases h3 with z | z
          · exact absurd z q1
          · exact absurd z q2
def VZ (B : Int) (I F E : Nat) : Int := if F ≤ I ∧ I < E then (B - 48) * 10 ^ (E - 1 - I) else 0
theorem own_F6 {x : Int32} {n : Nat} (hx : x.toInt = n) (hn : n ≤ 5) : (F6 x).toInt = 10 ^ n := by
  have : n = 0 ∨ n = 1 ∨ n = 2 ∨ n = 3 ∨ n = 4 ∨ n = 5 := by omega
  rcases this with rfl | rfl | rfl | rfl | rfl | rfl
  · obtain rfl : x = 0 := Int32.toInt_inj.mp (by rw [hx]; decide)
    decide
  · obtain rfl : x = 1 := Int32.toInt_inj.mp (by rw [hx]; decide)
    decide
  · obtain rfl : x = 2 := Int32.toInt_inj.mp (by rw [hx]; decide)
    decide
  · obtain rfl : x = 3 := Int32.toInt_inj.mp (by rw [hx]; decide)
    decide
  · obtain rfl : x = 4 := Int32.toInt_inj.mp (by rw [hx]; decide)
    decide
  · obtain rfl : x = 5 := Int32.toInt_inj.mp (by rw [hx]; decide)
    decide
theorem own_v {b i f e : Int32} {I F E : Nat} (hi : i.toInt = I) (hf : f.toInt = F) (he : e.toInt = E) (hI : I ≤ 5) (hE : E ≤ 6) (hb : F ≤ I → I < E → 48 ≤ b.toInt ∧ b.toInt ≤ 57) : (F5 b i f e).toInt = VZ b.toInt I F E ∧ 0 ≤ VZ b.toInt I F E ∧ VZ b.toInt I F E ≤ 900000 := by
  unfold F5 VZ
  by_cases h : nar .boolean (F4 i f e) = 0
  · rw [if_pos h]
    rw [own_F4, Int32.lt_iff_toInt_lt, Int32.lt_iff_toInt_lt, hi, hf, he] at h
    rw [if_neg (by omega)]
    exact ⟨by decide, by omega, by omega⟩
  · rw [if_neg h]
    rw [own_F4, Classical.not_not, Int32.lt_iff_toInt_lt, Int32.lt_iff_toInt_lt, hi, hf, he] at h
    rw [if_pos (by omega)]
    have g := hb (by omega) (by omega)
    have a1 := c_isub e 1
    have a2 := rng32 (e - 1)
    have a3 := c_isub (e - 1) i
    have a4 := rng32 (e - 1 - i)
    have e1 : (1 : Int32).toInt = 1 := by decide
    have ex : ((e - 1) - i).toInt = ((E - 1 - I : Nat) : Int) := by omega
    have p := own_F6 ex (by omega)
    have a5 := c_isub b 48
    have a6 := rng32 (b - 48)
    have e2 : (48 : Int32).toInt = 48 := by decide
    have a7 : (b - 48).toInt64.toInt = b.toInt - 48 := by rw [c_i2l]; omega
    have a8 := c_lmul (b - 48).toInt64 (F6 ((e - 1) - i))
    have a9 := rng64 ((b - 48).toInt64 * F6 ((e - 1) - i))
    rw [a7, p] at a8
    have hn : E - 1 - I = 0 ∨ E - 1 - I = 1 ∨ E - 1 - I = 2 ∨ E - 1 - I = 3 ∨ E - 1 - I = 4 ∨ E - 1 - I = 5 := by omega
    rcases hn with q | q | q | q | q | q <;> rw [q] at a8 ⊢ <;> omega
theorem own_fin (vs : List Int32) {b j ff cc : Int32} {J : Nat} (hj : j.toInt = J) (hb : vs.getD J 0 = b) (r1 : 0 ≤ ff.toInt) (r2 : 0 ≤ cc.toInt) (r3 : ff.toInt + cc.toInt ≤ 6) (h : ¬ nar .boolean (F3 b j ff (ff + cc)) = 0) : (NUM vs cc.toInt.toNat ff.toInt.toNat 0).toInt64 = (-1 : Int64) := by
  rw [own_F3, Classical.not_not, Int32.lt_iff_toInt_lt, Int32.lt_iff_toInt_lt, own_end r1 r2 (by omega), hj] at h
  rw [own_bad vs _ _ _ ⟨J, by omega, by omega, by rw [hb]; exact h.2⟩]
  decide
theorem own_in {i f e : Int32} {I F E : Nat} (hi : i.toInt = I) (hf : f.toInt = F) (he : e.toInt = E) (h1 : F ≤ I) (h2 : I < E) : ¬ i < f ∧ i < e := by
  rw [Int32.lt_iff_toInt_lt, Int32.lt_iff_toInt_lt, hi, hf, he]; omega
theorem own_A (t0 t1 t2 t3 t4 t5 ff cc : Int32) (r1 : 0 ≤ ff.toInt) (r2 : 0 ≤ cc.toInt) (r3 : ff.toInt + cc.toInt ≤ 6) (u0 : -128 ≤ t0.toInt ∧ t0.toInt ≤ 127) (u1 : -128 ≤ t1.toInt ∧ t1.toInt ≤ 127) (u2 : -128 ≤ t2.toInt ∧ t2.toInt ≤ 127) (u3 : -128 ≤ t3.toInt ∧ t3.toInt ≤ 127) (u4 : -128 ≤ t4.toInt ∧ t4.toInt ≤ 127) (u5 : -128 ≤ t5.toInt ∧ t5.toInt ≤ 127) (hc : ¬ (if (nar .boolean (F3 t0 (0 : Int32) ff (ff + cc))) = (0 : Int32) then (if (nar .boolean (F3 t1 (1 : Int32) ff (ff + cc))) = (0 : Int32) then (if (nar .boolean (F3 t2 (2 : Int32) ff (ff + cc))) = (0 : Int32) then (if (nar .boolean (F3 t3 (3 : Int32) ff (ff + cc))) = (0 : Int32) then (if (nar .boolean (F3 t4 (4 : Int32) ff (ff + cc))) = (0 : Int32) then (if (nar .boolean (F3 t5 (5 : Int32) ff (ff + cc))) = (0 : Int32) then (0 : Int32) else (1 : Int32)) else (1 : Int32)) else (1 : Int32)) else (1 : Int32)) else (1 : Int32)) else (1 : Int32)) = (0 : Int32)) : (NUM [t0, t1, t2, t3, t4, t5] cc.toInt.toNat ff.toInt.toNat 0).toInt64 = (-1 : Int64) := by
  by_cases g0 : (nar .boolean (F3 t0 (0 : Int32) ff (ff + cc))) = (0 : Int32)
  · rw [if_pos g0] at hc
    by_cases g1 : (nar .boolean (F3 t1 (1 : Int32) ff (ff + cc))) = (0 : Int32)
    · rw [if_pos g1] at hc
      by_cases g2 : (nar .boolean (F3 t2 (2 : Int32) ff (ff + cc))) = (0 : Int32)
      · rw [if_pos g2] at hc
        by_cases g3 : (nar .boolean (F3 t3 (3 : Int32) ff (ff + cc))) = (0 : Int32)
        · rw [if_pos g3] at hc
          by_cases g4 : (nar .boolean (F3 t4 (4 : Int32) ff (ff + cc))) = (0 : Int32)
          · rw [if_pos g4] at hc
            by_cases g5 : (nar .boolean (F3 t5 (5 : Int32) ff (ff + cc))) = (0 : Int32)
            · rw [if_pos g5] at hc
              exact absurd rfl hc
            · exact own_fin [t0, t1, t2, t3, t4, t5] (j := (5 : Int32)) (J := 5) (by decide) rfl r1 r2 r3 g5
          · exact own_fin [t0, t1, t2, t3, t4, t5] (j := (4 : Int32)) (J := 4) (by decide) rfl r1 r2 r3 g4
        · exact own_fin [t0, t1, t2, t3, t4, t5] (j := (3 : Int32)) (J := 3) (by decide) rfl r1 r2 r3 g3
      · exact own_fin [t0, t1, t2, t3, t4, t5] (j := (2 : Int32)) (J := 2) (by decide) rfl r1 r2 r3 g2
    · exact own_fin [t0, t1, t2, t3, t4, t5] (j := (1 : Int32)) (J := 1) (by decide) rfl r1 r2 r3 g1
  · exact own_fin [t0, t1, t2, t3, t4, t5] (j := (0 : Int32)) (J := 0) (by decide) rfl r1 r2 r3 g0
theorem own_B (t0 t1 t2 t3 t4 t5 ff cc : Int32) (r1 : 0 ≤ ff.toInt) (r2 : 0 ≤ cc.toInt) (r3 : ff.toInt + cc.toInt ≤ 6) (u0 : -128 ≤ t0.toInt ∧ t0.toInt ≤ 127) (u1 : -128 ≤ t1.toInt ∧ t1.toInt ≤ 127) (u2 : -128 ≤ t2.toInt ∧ t2.toInt ≤ 127) (u3 : -128 ≤ t3.toInt ∧ t3.toInt ≤ 127) (u4 : -128 ≤ t4.toInt ∧ t4.toInt ≤ 127) (u5 : -128 ≤ t5.toInt ∧ t5.toInt ≤ 127) (hc : (if (nar .boolean (F3 t0 (0 : Int32) ff (ff + cc))) = (0 : Int32) then (if (nar .boolean (F3 t1 (1 : Int32) ff (ff + cc))) = (0 : Int32) then (if (nar .boolean (F3 t2 (2 : Int32) ff (ff + cc))) = (0 : Int32) then (if (nar .boolean (F3 t3 (3 : Int32) ff (ff + cc))) = (0 : Int32) then (if (nar .boolean (F3 t4 (4 : Int32) ff (ff + cc))) = (0 : Int32) then (if (nar .boolean (F3 t5 (5 : Int32) ff (ff + cc))) = (0 : Int32) then (0 : Int32) else (1 : Int32)) else (1 : Int32)) else (1 : Int32)) else (1 : Int32)) else (1 : Int32)) else (1 : Int32)) = (0 : Int32)) : (NUM [t0, t1, t2, t3, t4, t5] cc.toInt.toNat ff.toInt.toNat 0).toInt64 = ((((((F5 t0 (0 : Int32) ff (ff + cc)) + (F5 t1 (1 : Int32) ff (ff + cc))) + (F5 t2 (2 : Int32) ff (ff + cc))) + (F5 t3 (3 : Int32) ff (ff + cc))) + (F5 t4 (4 : Int32) ff (ff + cc))) + (F5 t5 (5 : Int32) ff (ff + cc))) := by
  have g0 : (nar .boolean (F3 t0 (0 : Int32) ff (ff + cc))) = (0 : Int32) := by
    by_cases q : (nar .boolean (F3 t0 (0 : Int32) ff (ff + cc))) = (0 : Int32)
    · exact q
    · rw [if_neg q] at hc; exact absurd hc (by decide)
  rw [if_pos g0] at hc
  have g1 : (nar .boolean (F3 t1 (1 : Int32) ff (ff + cc))) = (0 : Int32) := by
    by_cases q : (nar .boolean (F3 t1 (1 : Int32) ff (ff + cc))) = (0 : Int32)
    · exact q
    · rw [if_neg q] at hc; exact absurd hc (by decide)
  rw [if_pos g1] at hc
  have g2 : (nar .boolean (F3 t2 (2 : Int32) ff (ff + cc))) = (0 : Int32) := by
    by_cases q : (nar .boolean (F3 t2 (2 : Int32) ff (ff + cc))) = (0 : Int32)
    · exact q
    · rw [if_neg q] at hc; exact absurd hc (by decide)
  rw [if_pos g2] at hc
  have g3 : (nar .boolean (F3 t3 (3 : Int32) ff (ff + cc))) = (0 : Int32) := by
    by_cases q : (nar .boolean (F3 t3 (3 : Int32) ff (ff + cc))) = (0 : Int32)
    · exact q
    · rw [if_neg q] at hc; exact absurd hc (by decide)
  rw [if_pos g3] at hc
  have g4 : (nar .boolean (F3 t4 (4 : Int32) ff (ff + cc))) = (0 : Int32) := by
    by_cases q : (nar .boolean (F3 t4 (4 : Int32) ff (ff + cc))) = (0 : Int32)
    · exact q
    · rw [if_neg q] at hc; exact absurd hc (by decide)
  rw [if_pos g4] at hc
  have g5 : (nar .boolean (F3 t5 (5 : Int32) ff (ff + cc))) = (0 : Int32) := by
    by_cases q : (nar .boolean (F3 t5 (5 : Int32) ff (ff + cc))) = (0 : Int32)
    · exact q
    · rw [if_neg q] at hc; exact absurd hc (by decide)
  rw [if_pos g5] at hc
  have hend := own_end r1 r2 (by omega)
  obtain ⟨f, hf⟩ : ∃ f : Nat, ff.toInt = f := ⟨ff.toInt.toNat, by omega⟩
  obtain ⟨c, hcn⟩ : ∃ c : Nat, cc.toInt = c := ⟨cc.toInt.toNat, by omega⟩
  have he : (ff + cc).toInt = ((f + c : Nat) : Int) := by omega
  have hE : f + c ≤ 6 := by omega
  have q0 : f ≤ 0 → 0 < f + c → 48 ≤ t0.toInt ∧ t0.toInt ≤ 57 := fun z1 z2 => own_good' fun z => (own_F3 _ _ _ _).mp g0 ⟨own_in (by decide) hf he z1 z2, z⟩
  obtain ⟨v0, s0, z0⟩ := own_v (b := t0) (i := (0 : Int32)) (I := 0) (by decide) hf he (by omega) hE q0
  have q1 : f ≤ 1 → 1 < f + c → 48 ≤ t1.toInt ∧ t1.toInt ≤ 57 := fun z1 z2 => own_good' fun z => (own_F3 _ _ _ _).mp g1 ⟨own_in (by decide) hf he z1 z2, z⟩
  obtain ⟨v1, s1, z1⟩ := own_v (b := t1) (i := (1 : Int32)) (I := 1) (by decide) hf he (by omega) hE q1
  have q2 : f ≤ 2 → 2 < f + c → 48 ≤ t2.toInt ∧ t2.toInt ≤ 57 := fun z1 z2 => own_good' fun z => (own_F3 _ _ _ _).mp g2 ⟨own_in (by decide) hf he z1 z2, z⟩
  obtain ⟨v2, s2, z2⟩ := own_v (b := t2) (i := (2 : Int32)) (I := 2) (by decide) hf he (by omega) hE q2
  have q3 : f ≤ 3 → 3 < f + c → 48 ≤ t3.toInt ∧ t3.toInt ≤ 57 := fun z1 z2 => own_good' fun z => (own_F3 _ _ _ _).mp g3 ⟨own_in (by decide) hf he z1 z2, z⟩
  obtain ⟨v3, s3, z3⟩ := own_v (b := t3) (i := (3 : Int32)) (I := 3) (by decide) hf he (by omega) hE q3
  have q4 : f ≤ 4 → 4 < f + c → 48 ≤ t4.toInt ∧ t4.toInt ≤ 57 := fun z1 z2 => own_good' fun z => (own_F3 _ _ _ _).mp g4 ⟨own_in (by decide) hf he z1 z2, z⟩
  obtain ⟨v4, s4, z4⟩ := own_v (b := t4) (i := (4 : Int32)) (I := 4) (by decide) hf he (by omega) hE q4
  have q5 : f ≤ 5 → 5 < f + c → 48 ≤ t5.toInt ∧ t5.toInt ≤ 57 := fun z1 z2 => own_good' fun z => (own_F3 _ _ _ _).mp g5 ⟨own_in (by decide) hf he z1 z2, z⟩
  obtain ⟨v5, s5, z5⟩ := own_v (b := t5) (i := (5 : Int32)) (I := 5) (by decide) hf he (by omega) hE q5
  have hN := own_nz [t0, t1, t2, t3, t4, t5] c f 0 0 (by decide) (by omega) (by
    have : c = 0 ∨ c = 1 ∨ c = 2 ∨ c = 3 ∨ c = 4 ∨ c = 5 ∨ c = 6 := by omega
    rcases this with rfl | rfl | rfl | rfl | rfl | rfl | rfl <;> decide) (fun j z1 z2 => by
    have : j = 0 ∨ j = 1 ∨ j = 2 ∨ j = 3 ∨ j = 4 ∨ j = 5 := by omega
    rcases this with rfl | rfl | rfl | rfl | rfl | rfl
    · exact q0 z1 z2
    · exact q1 z1 z2
    · exact q2 z1 z2
    · exact q3 z1 z2
    · exact q4 z1 z2
    · exact q5 z1 z2)
  apply Int64.toInt_inj.mp
  rw [c_i2l, hf, hcn, Int.toNat_natCast, Int.toNat_natCast, hN]
  have l1 := c_ladd (F5 t0 (0 : Int32) ff (ff + cc)) (F5 t1 (1 : Int32) ff (ff + cc))
  have m1 := rng64 ((F5 t0 (0 : Int32) ff (ff + cc)) + (F5 t1 (1 : Int32) ff (ff + cc)))
  have l2 := c_ladd ((F5 t0 (0 : Int32) ff (ff + cc)) + (F5 t1 (1 : Int32) ff (ff + cc))) (F5 t2 (2 : Int32) ff (ff + cc))
  have m2 := rng64 (((F5 t0 (0 : Int32) ff (ff + cc)) + (F5 t1 (1 : Int32) ff (ff + cc))) + (F5 t2 (2 : Int32) ff (ff + cc)))
  have l3 := c_ladd (((F5 t0 (0 : Int32) ff (ff + cc)) + (F5 t1 (1 : Int32) ff (ff + cc))) + (F5 t2 (2 : Int32) ff (ff + cc))) (F5 t3 (3 : Int32) ff (ff + cc))
  have m3 := rng64 ((((F5 t0 (0 : Int32) ff (ff + cc)) + (F5 t1 (1 : Int32) ff (ff + cc))) + (F5 t2 (2 : Int32) ff (ff + cc))) + (F5 t3 (3 : Int32) ff (ff + cc)))
  have l4 := c_ladd ((((F5 t0 (0 : Int32) ff (ff + cc)) + (F5 t1 (1 : Int32) ff (ff + cc))) + (F5 t2 (2 : Int32) ff (ff + cc))) + (F5 t3 (3 : Int32) ff (ff + cc))) (F5 t4 (4 : Int32) ff (ff + cc))
  have m4 := rng64 (((((F5 t0 (0 : Int32) ff (ff + cc)) + (F5 t1 (1 : Int32) ff (ff + cc))) + (F5 t2 (2 : Int32) ff (ff + cc))) + (F5 t3 (3 : Int32) ff (ff + cc))) + (F5 t4 (4 : Int32) ff (ff + cc)))
  have l5 := c_ladd (((((F5 t0 (0 : Int32) ff (ff + cc)) + (F5 t1 (1 : Int32) ff (ff + cc))) + (F5 t2 (2 : Int32) ff (ff + cc))) + (F5 t3 (3 : Int32) ff (ff + cc))) + (F5 t4 (4 : Int32) ff (ff + cc))) (F5 t5 (5 : Int32) ff (ff + cc))
  have m5 := rng64 ((((((F5 t0 (0 : Int32) ff (ff + cc)) + (F5 t1 (1 : Int32) ff (ff + cc))) + (F5 t2 (2 : Int32) ff (ff + cc))) + (F5 t3 (3 : Int32) ff (ff + cc))) + (F5 t4 (4 : Int32) ff (ff + cc))) + (F5 t5 (5 : Int32) ff (ff + cc)))
  generalize F5 t0 (0 : Int32) ff (ff + cc) = w0 at *
  generalize F5 t1 (1 : Int32) ff (ff + cc) = w1 at *
  generalize F5 t2 (2 : Int32) ff (ff + cc) = w2 at *
  generalize F5 t3 (3 : Int32) ff (ff + cc) = w3 at *
  generalize F5 t4 (4 : Int32) ff (ff + cc) = w4 at *
  generalize F5 t5 (5 : Int32) ff (ff + cc) = w5 at *
  have hsum : (w0 + w1 + w2 + w3 + w4 + w5).toInt = VZ t0.toInt 0 f (f + c) + VZ t1.toInt 1 f (f + c) + VZ t2.toInt 2 f (f + c) + VZ t3.toInt 3 f (f + c) + VZ t4.toInt 4 f (f + c) + VZ t5.toInt 5 f (f + c) := by omega
  rw [hsum]
  clear hsum hN l1 l2 l3 l4 l5 m1 m2 m3 m4 m5 v0 v1 v2 v3 v4 v5 s0 s1 s2 s3 s4 s5 z0 z1 z2 z3 z4 z5 q0 q1 q2 q3 q4 q5 g0 g1 g2 g3 g4 g5 hc
  have hf7 : f = 0 ∨ f = 1 ∨ f = 2 ∨ f = 3 ∨ f = 4 ∨ f = 5 ∨ f = 6 := by omega
  have hc7 : c = 0 ∨ c = 1 ∨ c = 2 ∨ c = 3 ∨ c = 4 ∨ c = 5 ∨ c = 6 := by omega
  rcases hf7 with rfl | rfl | rfl | rfl | rfl | rfl | rfl <;> rcases hc7 with rfl | rfl | rfl | rfl | rfl | rfl | rfl <;> first | (exfalso; omega) | (simp [NZ, VZ]; done) | (simp [NZ, VZ]; omega)
set_option maxRecDepth 65536 in
set_option maxHeartbeats 40000000 in
theorem b0 {l : Launch} {Z : State} {a0 : Array Value} (hw : HW a0 Z) (x0 : Int64) (x1 : Int32) (x2 : Int32) (x3 : Int32) {n0 : Nat} {h : Heap} (Z0 : n0 ≤ h.size) : OM l Z x code maxLocals ret room_1 n0 h #[(.long x0), (.int x1), (.int x2), (.int x3)] (fun v h' => v = some (.int 1)) 1 6 := by
  refine OM.of_body (ls := #[.val (.long x0), .second, .val (.int x1), .val (.int x2), .val (.int x3), .unset, .unset, .unset, .unset, .unset, .unset, .unset, .unset]) (plainFor_of_name pn_0) (fun m => by first | rfl | simp [entryFrame, mkF, argsToLocals, Value.category, maxLocals]) ?_
  intro p e s m below meth c C
  refine OG.ow (OG.iload C at_0 rfl (pc' := 2) rfl) ?_
  refine OG.ow (OG.ldcI C (w0 hw) at_2 (pc' := 4) rfl) ?_
  refine OG.ow (OG.iand C at_4 (pc' := 5) rfl) ?_
  refine OG.ow (OG.bipush C at_5 (z := (7 : Int32)) (by decide) (pc' := 7) rfl) ?_
  refine OG.ow (OG.irem C at_7 (by decide) (pc' := 8) rfl) ?_
  refine OG.ow (OG.istore C at_8 (ls' := #[.val (.long x0), .second, .val (.int x1), .val (.int x2), .val (.int x3), .val (.int ((x3 &&& (2147483647 : Int32)) % (7 : Int32))), .unset, .unset, .unset, .unset, .unset, .unset, .unset]) rfl (pc' := 10) rfl) ?_
  generalize hcc : ((x3 &&& (2147483647 : Int32)) % (7 : Int32)) = cc
  obtain ⟨r2, r4⟩ := own_cc x3 cc hcc
  refine OG.ow (OG.iloadN C at_10 rfl (pc' := 11) rfl) ?_
  refine OG.ow (OG.ldcI C (w0 hw) at_11 (pc' := 13) rfl) ?_
  refine OG.ow (OG.iand C at_13 (pc' := 14) rfl) ?_
  refine OG.ow (OG.bipush C at_14 (z := (7 : Int32)) (by decide) (pc' := 16) rfl) ?_
  refine OG.ow (OG.iload C at_16 rfl (pc' := 18) rfl) ?_
  refine OG.ow (OG.isub C at_18 (pc' := 19) rfl) ?_
  refine OG.ow (OG.irem C at_19 (own_7 r2 r4) (pc' := 20) rfl) ?_
  refine OG.ow (OG.istore C at_20 (ls' := #[.val (.long x0), .second, .val (.int x1), .val (.int x2), .val (.int x3), .val (.int cc), .val (.int ((x2 &&& (2147483647 : Int32)) % ((7 : Int32) - cc))), .unset, .unset, .unset, .unset, .unset, .unset]) rfl (pc' := 22) rfl) ?_
  generalize hff : ((x2 &&& (2147483647 : Int32)) % ((7 : Int32) - cc)) = ff
  obtain ⟨r1, r3⟩ := own_ff x2 cc ff r2 r4 hff
  refine OG.ow (OG.iload C at_22 rfl (pc' := 24) rfl) ?_
  refine OG.ow (OG.iload C at_24 rfl (pc' := 26) rfl) ?_
  refine OG.ow (OG.iadd C at_26 (pc' := 27) rfl) ?_
  refine OG.ow (OG.istore C at_27 (ls' := #[.val (.long x0), .second, .val (.int x1), .val (.int x2), .val (.int x3), .val (.int cc), .val (.int ff), .val (.int (ff + cc)), .unset, .unset, .unset, .unset, .unset]) rfl (pc' := 29) rfl) ?_
  refine OG.ow (OG.bipush C at_29 (z := (6 : Int32)) (by decide) (pc' := 31) rfl) ?_
  refine OW.newP C (ty := .byte) rfl (w1 hw) (by decide) (cap := 6) (by decide) (by decide) at_31 (by decide) (by decide) (pc' := 33) rfl ?_
  intro a1 h2 ga1 Eh2 Aa1
  refine OG.ow (OG.astore C at_33 rfl (ls' := #[.val (.long x0), .second, .val (.int x1), .val (.int x2), .val (.int x3), .val (.int cc), .val (.int ff), .val (.int (ff + cc)), .val (.ref a1), .unset, .unset, .unset, .unset]) rfl (pc' := 35) rfl) ?_
  refine OG.ow (OG.aload C at_35 rfl rfl (pc' := 37) rfl) ?_
  refine OG.ow (OG.iconst C at_37 (z := (0 : Int32)) rfl (pc' := 38) rfl) ?_
  refine OG.ow (OG.lloadN C at_38 rfl (pc' := 39) rfl) ?_
  refine OG.ow (OG.iconst C at_39 (z := (0 : Int32)) rfl (pc' := 40) rfl) ?_
  refine OG.ow (OG.iloadN C at_40 rfl (pc' := 41) rfl) ?_
  refine OG.ow (OG.callS C (w2 hw) (w3 hw) (w4 hw) (w5 hw) (by decide) (b1 hw x0 (0 : Int32) x1) at_41 pd_2 rfl (argsL := [(.long x0), (.int (0 : Int32)), (.int x1)]) (rest := [(.int (0 : Int32)), (.ref a1)]) rfl rfl (W := 2) rfl (by decide) (by decide) (pc' := 44) rfl) ?_
  generalize hb0 : (nar .byte (F1 x0 (0 : Int32) x1)) = t0
  obtain ⟨n0, u0⟩ := own_byte hb0
  refine OW.bastore C (show OA Z h2 a1 .byte [(.int (0 : Int32)), (.int (0 : Int32)), (.int (0 : Int32)), (.int (0 : Int32)), (.int (0 : Int32)), (.int (0 : Int32))] from Aa1) (own_ib (n := 6) rfl (by decide)) (Nat.le_trans Z0 (Nat.le_of_eq ga1)) at_44 (pc' := 45) rfl ?_
  intro h3 Wh3
  rw [n0] at Wh3
  have G4 : OA Z h3 a1 .byte [(.int t0), (.int (0 : Int32)), (.int (0 : Int32)), (.int (0 : Int32)), (.int (0 : Int32)), (.int (0 : Int32))] := OA.same (show OA Z h2 a1 .byte [(.int (0 : Int32)), (.int (0 : Int32)), (.int (0 : Int32)), (.int (0 : Int32)), (.int (0 : Int32)), (.int (0 : Int32))] from Aa1) Wh3
  refine OG.ow (OG.aload C at_45 rfl rfl (pc' := 47) rfl) ?_
  refine OG.ow (OG.iconst C at_47 (z := (1 : Int32)) rfl (pc' := 48) rfl) ?_
  refine OG.ow (OG.lloadN C at_48 rfl (pc' := 49) rfl) ?_
  refine OG.ow (OG.iconst C at_49 (z := (1 : Int32)) rfl (pc' := 50) rfl) ?_
  refine OG.ow (OG.iloadN C at_50 rfl (pc' := 51) rfl) ?_
  refine OG.ow (OG.callS C (w2 hw) (w3 hw) (w4 hw) (w5 hw) (by decide) (b1 hw x0 (1 : Int32) x1) at_51 pd_2 rfl (argsL := [(.long x0), (.int (1 : Int32)), (.int x1)]) (rest := [(.int (1 : Int32)), (.ref a1)]) rfl rfl (W := 2) rfl (by decide) (by decide) (pc' := 54) rfl) ?_
  generalize hb1 : (nar .byte (F1 x0 (1 : Int32) x1)) = t1
  obtain ⟨n1, u1⟩ := own_byte hb1
  refine OW.bastore C G4 (own_ib (n := 6) rfl (by decide)) (Nat.le_trans Z0 (Nat.le_of_eq ga1)) at_54 (pc' := 55) rfl ?_
  intro h5 Wh5
  rw [n1] at Wh5
  have G6 : OA Z h5 a1 .byte [(.int t0), (.int t1), (.int (0 : Int32)), (.int (0 : Int32)), (.int (0 : Int32)), (.int (0 : Int32))] := OA.same G4 Wh5
  refine OG.ow (OG.aload C at_55 rfl rfl (pc' := 57) rfl) ?_
  refine OG.ow (OG.iconst C at_57 (z := (2 : Int32)) rfl (pc' := 58) rfl) ?_
  refine OG.ow (OG.lloadN C at_58 rfl (pc' := 59) rfl) ?_
  refine OG.ow (OG.iconst C at_59 (z := (2 : Int32)) rfl (pc' := 60) rfl) ?_
  refine OG.ow (OG.iloadN C at_60 rfl (pc' := 61) rfl) ?_
  refine OG.ow (OG.callS C (w2 hw) (w3 hw) (w4 hw) (w5 hw) (by decide) (b1 hw x0 (2 : Int32) x1) at_61 pd_2 rfl (argsL := [(.long x0), (.int (2 : Int32)), (.int x1)]) (rest := [(.int (2 : Int32)), (.ref a1)]) rfl rfl (W := 2) rfl (by decide) (by decide) (pc' := 64) rfl) ?_
  generalize hb2 : (nar .byte (F1 x0 (2 : Int32) x1)) = t2
  obtain ⟨n2, u2⟩ := own_byte hb2
  refine OW.bastore C G6 (own_ib (n := 6) rfl (by decide)) (Nat.le_trans Z0 (Nat.le_of_eq ga1)) at_64 (pc' := 65) rfl ?_
  intro h7 Wh7
  rw [n2] at Wh7
  have G8 : OA Z h7 a1 .byte [(.int t0), (.int t1), (.int t2), (.int (0 : Int32)), (.int (0 : Int32)), (.int (0 : Int32))] := OA.same G6 Wh7
  refine OG.ow (OG.aload C at_65 rfl rfl (pc' := 67) rfl) ?_
  refine OG.ow (OG.iconst C at_67 (z := (3 : Int32)) rfl (pc' := 68) rfl) ?_
  refine OG.ow (OG.lloadN C at_68 rfl (pc' := 69) rfl) ?_
  refine OG.ow (OG.iconst C at_69 (z := (3 : Int32)) rfl (pc' := 70) rfl) ?_
  refine OG.ow (OG.iloadN C at_70 rfl (pc' := 71) rfl) ?_
  refine OG.ow (OG.callS C (w2 hw) (w3 hw) (w4 hw) (w5 hw) (by decide) (b1 hw x0 (3 : Int32) x1) at_71 pd_2 rfl (argsL := [(.long x0), (.int (3 : Int32)), (.int x1)]) (rest := [(.int (3 : Int32)), (.ref a1)]) rfl rfl (W := 2) rfl (by decide) (by decide) (pc' := 74) rfl) ?_
  generalize hb3 : (nar .byte (F1 x0 (3 : Int32) x1)) = t3
  obtain ⟨n3, u3⟩ := own_byte hb3
  refine OW.bastore C G8 (own_ib (n := 6) rfl (by decide)) (Nat.le_trans Z0 (Nat.le_of_eq ga1)) at_74 (pc' := 75) rfl ?_
  intro h9 Wh9
  rw [n3] at Wh9
  have G10 : OA Z h9 a1 .byte [(.int t0), (.int t1), (.int t2), (.int t3), (.int (0 : Int32)), (.int (0 : Int32))] := OA.same G8 Wh9
  refine OG.ow (OG.aload C at_75 rfl rfl (pc' := 77) rfl) ?_
  refine OG.ow (OG.iconst C at_77 (z := (4 : Int32)) rfl (pc' := 78) rfl) ?_
  refine OG.ow (OG.lloadN C at_78 rfl (pc' := 79) rfl) ?_
  refine OG.ow (OG.iconst C at_79 (z := (4 : Int32)) rfl (pc' := 80) rfl) ?_
  refine OG.ow (OG.iloadN C at_80 rfl (pc' := 81) rfl) ?_
  refine OG.ow (OG.callS C (w2 hw) (w3 hw) (w4 hw) (w5 hw) (by decide) (b1 hw x0 (4 : Int32) x1) at_81 pd_2 rfl (argsL := [(.long x0), (.int (4 : Int32)), (.int x1)]) (rest := [(.int (4 : Int32)), (.ref a1)]) rfl rfl (W := 2) rfl (by decide) (by decide) (pc' := 84) rfl) ?_
  generalize hb4 : (nar .byte (F1 x0 (4 : Int32) x1)) = t4
  obtain ⟨n4, u4⟩ := own_byte hb4
  refine OW.bastore C G10 (own_ib (n := 6) rfl (by decide)) (Nat.le_trans Z0 (Nat.le_of_eq ga1)) at_84 (pc' := 85) rfl ?_
  intro h11 Wh11
  rw [n4] at Wh11
  have G12 : OA Z h11 a1 .byte [(.int t0), (.int t1), (.int t2), (.int t3), (.int t4), (.int (0 : Int32))] := OA.same G10 Wh11
  refine OG.ow (OG.aload C at_85 rfl rfl (pc' := 87) rfl) ?_
  refine OG.ow (OG.iconst C at_87 (z := (5 : Int32)) rfl (pc' := 88) rfl) ?_
  refine OG.ow (OG.lloadN C at_88 rfl (pc' := 89) rfl) ?_
  refine OG.ow (OG.iconst C at_89 (z := (5 : Int32)) rfl (pc' := 90) rfl) ?_
  refine OG.ow (OG.iloadN C at_90 rfl (pc' := 91) rfl) ?_
  refine OG.ow (OG.callS C (w2 hw) (w3 hw) (w4 hw) (w5 hw) (by decide) (b1 hw x0 (5 : Int32) x1) at_91 pd_2 rfl (argsL := [(.long x0), (.int (5 : Int32)), (.int x1)]) (rest := [(.int (5 : Int32)), (.ref a1)]) rfl rfl (W := 2) rfl (by decide) (by decide) (pc' := 94) rfl) ?_
  generalize hb5 : (nar .byte (F1 x0 (5 : Int32) x1)) = t5
  obtain ⟨n5, u5⟩ := own_byte hb5
  refine OW.bastore C G12 (own_ib (n := 6) rfl (by decide)) (Nat.le_trans Z0 (Nat.le_of_eq ga1)) at_94 (pc' := 95) rfl ?_
  intro h13 Wh13
  rw [n5] at Wh13
  have G14 : OA Z h13 a1 .byte [(.int t0), (.int t1), (.int t2), (.int t3), (.int t4), (.int t5)] := OA.same G12 Wh13
  refine OG.ow (OG.aload C at_95 rfl rfl (pc' := 97) rfl) ?_
  refine OG.ow (OG.iload C at_97 rfl (pc' := 99) rfl) ?_
  refine OG.ow (OG.iload C at_99 rfl (pc' := 101) rfl) ?_
  refine OG.ow (OG.callS C (w7 hw) (w8 hw) (w9 hw) (w10 hw) (by decide) (bN hw a1 ff cc [t0, t1, t2, t3, t4, t5] (show 6 < 1000 by decide) G14 r1 r2 r3) at_101 pd_3 rfl (argsL := [(.ref a1), (.int ff), (.int cc)]) (rest := []) rfl rfl (W := 0) rfl (by decide) (by decide) (pc' := 104) rfl) ?_
  refine OG.ow (OG.istore C at_104 (ls' := #[.val (.long x0), .second, .val (.int x1), .val (.int x2), .val (.int x3), .val (.int cc), .val (.int ff), .val (.int (ff + cc)), .val (.ref a1), .val (.int (NUM [t0, t1, t2, t3, t4, t5] cc.toInt.toNat ff.toInt.toNat 0)), .unset, .unset, .unset]) rfl (pc' := 106) rfl) ?_
  refine OG.ow (OG.aload C at_106 rfl rfl (pc' := 108) rfl) ?_
  refine OG.ow (OG.iconst C at_108 (z := (0 : Int32)) rfl (pc' := 109) rfl) ?_
  refine OG.ow (OG.baload C G14 (own_ib (n := 6) rfl (by decide)) rfl at_109 (pc' := 110) rfl) ?_
  refine OG.ow (OG.iconst C at_110 (z := (0 : Int32)) rfl (pc' := 111) rfl) ?_
  refine OG.ow (OG.iload C at_111 rfl (pc' := 113) rfl) ?_
  refine OG.ow (OG.iload C at_113 rfl (pc' := 115) rfl) ?_
  refine OG.ow (OG.callS C (w11 hw) (w12 hw) (w4 hw) (w13 hw) (by decide) (b3 hw t0 (0 : Int32) ff (ff + cc)) at_115 pd_4 rfl (argsL := [(.int t0), (.int (0 : Int32)), (.int ff), (.int (ff + cc))]) (rest := []) rfl rfl (W := 0) rfl (by decide) (by decide) (pc' := 118) rfl) ?_
  refine OG.ow (OG.ite (α := Int32) (P := (nar .boolean (F3 t0 (0 : Int32) ff (ff + cc))) = (0 : Int32)) (f := fun v => (mkF m 201 #[.val (.long x0), .second, .val (.int x1), .val (.int x2), .val (.int x3), .val (.int cc), .val (.int ff), .val (.int (ff + cc)), .val (.ref a1), .val (.int (NUM [t0, t1, t2, t3, t4, t5] cc.toInt.toNat ff.toInt.toNat 0)), .unset, .unset, .unset] [(.int v)])) (x := (if (nar .boolean (F3 t1 (1 : Int32) ff (ff + cc))) = (0 : Int32) then (if (nar .boolean (F3 t2 (2 : Int32) ff (ff + cc))) = (0 : Int32) then (if (nar .boolean (F3 t3 (3 : Int32) ff (ff + cc))) = (0 : Int32) then (if (nar .boolean (F3 t4 (4 : Int32) ff (ff + cc))) = (0 : Int32) then (if (nar .boolean (F3 t5 (5 : Int32) ff (ff + cc))) = (0 : Int32) then (0 : Int32) else (1 : Int32)) else (1 : Int32)) else (1 : Int32)) else (1 : Int32)) else (1 : Int32))) (y := (1 : Int32)) (fun hc => ?_) (fun hc => ?_)) ?_
  · refine OG.trans (OG.ifNo C at_118 ((if0 _ _).trans (teq hc).2) (pc' := 121) rfl) ?_
    refine OG.trans (OG.aload C at_121 rfl rfl (pc' := 123) rfl) ?_
    refine OG.trans (OG.iconst C at_123 (z := (1 : Int32)) rfl (pc' := 124) rfl) ?_
    refine OG.trans (OG.baload C G14 (own_ib (n := 6) rfl (by decide)) rfl at_124 (pc' := 125) rfl) ?_
    refine OG.trans (OG.iconst C at_125 (z := (1 : Int32)) rfl (pc' := 126) rfl) ?_
    refine OG.trans (OG.iload C at_126 rfl (pc' := 128) rfl) ?_
    refine OG.trans (OG.iload C at_128 rfl (pc' := 130) rfl) ?_
    refine OG.trans (OG.callS C (w11 hw) (w12 hw) (w4 hw) (w13 hw) (by decide) (b3 hw t1 (1 : Int32) ff (ff + cc)) at_130 pd_4 rfl (argsL := [(.int t1), (.int (1 : Int32)), (.int ff), (.int (ff + cc))]) (rest := []) rfl rfl (W := 0) rfl (by decide) (by decide) (pc' := 133) rfl) ?_
    refine OG.trans (OG.ite (α := Int32) (P := (nar .boolean (F3 t1 (1 : Int32) ff (ff + cc))) = (0 : Int32)) (f := fun v => (mkF m 201 #[.val (.long x0), .second, .val (.int x1), .val (.int x2), .val (.int x3), .val (.int cc), .val (.int ff), .val (.int (ff + cc)), .val (.ref a1), .val (.int (NUM [t0, t1, t2, t3, t4, t5] cc.toInt.toNat ff.toInt.toNat 0)), .unset, .unset, .unset] [(.int v)])) (x := (if (nar .boolean (F3 t2 (2 : Int32) ff (ff + cc))) = (0 : Int32) then (if (nar .boolean (F3 t3 (3 : Int32) ff (ff + cc))) = (0 : Int32) then (if (nar .boolean (F3 t4 (4 : Int32) ff (ff + cc))) = (0 : Int32) then (if (nar .boolean (F3 t5 (5 : Int32) ff (ff + cc))) = (0 : Int32) then (0 : Int32) else (1 : Int32)) else (1 : Int32)) else (1 : Int32)) else (1 : Int32))) (y := (1 : Int32)) (fun hc => ?_) (fun hc => ?_)) ?_
    · refine OG.trans (OG.ifNo C at_133 ((if0 _ _).trans (teq hc).2) (pc' := 136) rfl) ?_
      refine OG.trans (OG.aload C at_136 rfl rfl (pc' := 138) rfl) ?_
      refine OG.trans (OG.iconst C at_138 (z := (2 : Int32)) rfl (pc' := 139) rfl) ?_
      refine OG.trans (OG.baload C G14 (own_ib (n := 6) rfl (by decide)) rfl at_139 (pc' := 140) rfl) ?_
      refine OG.trans (OG.iconst C at_140 (z := (2 : Int32)) rfl (pc' := 141) rfl) ?_
      refine OG.trans (OG.iload C at_141 rfl (pc' := 143) rfl) ?_
      refine OG.trans (OG.iload C at_143 rfl (pc' := 145) rfl) ?_
      refine OG.trans (OG.callS C (w11 hw) (w12 hw) (w4 hw) (w13 hw) (by decide) (b3 hw t2 (2 : Int32) ff (ff + cc)) at_145 pd_4 rfl (argsL := [(.int t2), (.int (2 : Int32)), (.int ff), (.int (ff + cc))]) (rest := []) rfl rfl (W := 0) rfl (by decide) (by decide) (pc' := 148) rfl) ?_
      refine OG.trans (OG.ite (α := Int32) (P := (nar .boolean (F3 t2 (2 : Int32) ff (ff + cc))) = (0 : Int32)) (f := fun v => (mkF m 201 #[.val (.long x0), .second, .val (.int x1), .val (.int x2), .val (.int x3), .val (.int cc), .val (.int ff), .val (.int (ff + cc)), .val (.ref a1), .val (.int (NUM [t0, t1, t2, t3, t4, t5] cc.toInt.toNat ff.toInt.toNat 0)), .unset, .unset, .unset] [(.int v)])) (x := (if (nar .boolean (F3 t3 (3 : Int32) ff (ff + cc))) = (0 : Int32) then (if (nar .boolean (F3 t4 (4 : Int32) ff (ff + cc))) = (0 : Int32) then (if (nar .boolean (F3 t5 (5 : Int32) ff (ff + cc))) = (0 : Int32) then (0 : Int32) else (1 : Int32)) else (1 : Int32)) else (1 : Int32))) (y := (1 : Int32)) (fun hc => ?_) (fun hc => ?_)) ?_
      · refine OG.trans (OG.ifNo C at_148 ((if0 _ _).trans (teq hc).2) (pc' := 151) rfl) ?_
        refine OG.trans (OG.aload C at_151 rfl rfl (pc' := 153) rfl) ?_
        refine OG.trans (OG.iconst C at_153 (z := (3 : Int32)) rfl (pc' := 154) rfl) ?_
        refine OG.trans (OG.baload C G14 (own_ib (n := 6) rfl (by decide)) rfl at_154 (pc' := 155) rfl) ?_
        refine OG.trans (OG.iconst C at_155 (z := (3 : Int32)) rfl (pc' := 156) rfl) ?_
        refine OG.trans (OG.iload C at_156 rfl (pc' := 158) rfl) ?_
        refine OG.trans (OG.iload C at_158 rfl (pc' := 160) rfl) ?_
        refine OG.trans (OG.callS C (w11 hw) (w12 hw) (w4 hw) (w13 hw) (by decide) (b3 hw t3 (3 : Int32) ff (ff + cc)) at_160 pd_4 rfl (argsL := [(.int t3), (.int (3 : Int32)), (.int ff), (.int (ff + cc))]) (rest := []) rfl rfl (W := 0) rfl (by decide) (by decide) (pc' := 163) rfl) ?_
        refine OG.trans (OG.ite (α := Int32) (P := (nar .boolean (F3 t3 (3 : Int32) ff (ff + cc))) = (0 : Int32)) (f := fun v => (mkF m 201 #[.val (.long x0), .second, .val (.int x1), .val (.int x2), .val (.int x3), .val (.int cc), .val (.int ff), .val (.int (ff + cc)), .val (.ref a1), .val (.int (NUM [t0, t1, t2, t3, t4, t5] cc.toInt.toNat ff.toInt.toNat 0)), .unset, .unset, .unset] [(.int v)])) (x := (if (nar .boolean (F3 t4 (4 : Int32) ff (ff + cc))) = (0 : Int32) then (if (nar .boolean (F3 t5 (5 : Int32) ff (ff + cc))) = (0 : Int32) then (0 : Int32) else (1 : Int32)) else (1 : Int32))) (y := (1 : Int32)) (fun hc => ?_) (fun hc => ?_)) ?_
        · refine OG.trans (OG.ifNo C at_163 ((if0 _ _).trans (teq hc).2) (pc' := 166) rfl) ?_
          refine OG.trans (OG.aload C at_166 rfl rfl (pc' := 168) rfl) ?_
          refine OG.trans (OG.iconst C at_168 (z := (4 : Int32)) rfl (pc' := 169) rfl) ?_
          refine OG.trans (OG.baload C G14 (own_ib (n := 6) rfl (by decide)) rfl at_169 (pc' := 170) rfl) ?_
          refine OG.trans (OG.iconst C at_170 (z := (4 : Int32)) rfl (pc' := 171) rfl) ?_
          refine OG.trans (OG.iload C at_171 rfl (pc' := 173) rfl) ?_
          refine OG.trans (OG.iload C at_173 rfl (pc' := 175) rfl) ?_
          refine OG.trans (OG.callS C (w11 hw) (w12 hw) (w4 hw) (w13 hw) (by decide) (b3 hw t4 (4 : Int32) ff (ff + cc)) at_175 pd_4 rfl (argsL := [(.int t4), (.int (4 : Int32)), (.int ff), (.int (ff + cc))]) (rest := []) rfl rfl (W := 0) rfl (by decide) (by decide) (pc' := 178) rfl) ?_
          refine OG.trans (OG.ite (α := Int32) (P := (nar .boolean (F3 t4 (4 : Int32) ff (ff + cc))) = (0 : Int32)) (f := fun v => (mkF m 201 #[.val (.long x0), .second, .val (.int x1), .val (.int x2), .val (.int x3), .val (.int cc), .val (.int ff), .val (.int (ff + cc)), .val (.ref a1), .val (.int (NUM [t0, t1, t2, t3, t4, t5] cc.toInt.toNat ff.toInt.toNat 0)), .unset, .unset, .unset] [(.int v)])) (x := (if (nar .boolean (F3 t5 (5 : Int32) ff (ff + cc))) = (0 : Int32) then (0 : Int32) else (1 : Int32))) (y := (1 : Int32)) (fun hc => ?_) (fun hc => ?_)) ?_
          · refine OG.trans (OG.ifNo C at_178 ((if0 _ _).trans (teq hc).2) (pc' := 181) rfl) ?_
            refine OG.trans (OG.aload C at_181 rfl rfl (pc' := 183) rfl) ?_
            refine OG.trans (OG.iconst C at_183 (z := (5 : Int32)) rfl (pc' := 184) rfl) ?_
            refine OG.trans (OG.baload C G14 (own_ib (n := 6) rfl (by decide)) rfl at_184 (pc' := 185) rfl) ?_
            refine OG.trans (OG.iconst C at_185 (z := (5 : Int32)) rfl (pc' := 186) rfl) ?_
            refine OG.trans (OG.iload C at_186 rfl (pc' := 188) rfl) ?_
            refine OG.trans (OG.iload C at_188 rfl (pc' := 190) rfl) ?_
            refine OG.trans (OG.callS C (w11 hw) (w12 hw) (w4 hw) (w13 hw) (by decide) (b3 hw t5 (5 : Int32) ff (ff + cc)) at_190 pd_4 rfl (argsL := [(.int t5), (.int (5 : Int32)), (.int ff), (.int (ff + cc))]) (rest := []) rfl rfl (W := 0) rfl (by decide) (by decide) (pc' := 193) rfl) ?_
            refine OG.trans (OG.ite (α := Int32) (P := (nar .boolean (F3 t5 (5 : Int32) ff (ff + cc))) = (0 : Int32)) (f := fun v => (mkF m 201 #[.val (.long x0), .second, .val (.int x1), .val (.int x2), .val (.int x3), .val (.int cc), .val (.int ff), .val (.int (ff + cc)), .val (.ref a1), .val (.int (NUM [t0, t1, t2, t3, t4, t5] cc.toInt.toNat ff.toInt.toNat 0)), .unset, .unset, .unset] [(.int v)])) (x := (0 : Int32)) (y := (1 : Int32)) (fun hc => ?_) (fun hc => ?_)) ?_
            · refine OG.trans (OG.ifYes C at_193 ((if0 _ _).trans (teq hc).1) (by decide) (pc' := 200) (by decide)) ?_
              refine OG.trans (OG.iconst C at_200 (z := (0 : Int32)) rfl (pc' := 201) rfl) ?_
              exact OG.refl
            · refine OG.trans (OG.ifNo C at_193 ((if0 _ _).trans (feq hc).1) (pc' := 196) rfl) ?_
              refine OG.trans (OG.iconst C at_196 (z := (1 : Int32)) rfl (pc' := 197) rfl) ?_
              refine OG.trans (OG.goto C at_197 (by decide) (pc' := 201) (by decide)) ?_
              exact OG.refl
            exact OG.refl
          · refine OG.trans (OG.ifYes C at_178 ((if0 _ _).trans (feq hc).2) (by decide) (pc' := 196) (by decide)) ?_
            refine OG.trans (OG.iconst C at_196 (z := (1 : Int32)) rfl (pc' := 197) rfl) ?_
            refine OG.trans (OG.goto C at_197 (by decide) (pc' := 201) (by decide)) ?_
            exact OG.refl
          exact OG.refl
        · refine OG.trans (OG.ifYes C at_163 ((if0 _ _).trans (feq hc).2) (by decide) (pc' := 196) (by decide)) ?_
          refine OG.trans (OG.iconst C at_196 (z := (1 : Int32)) rfl (pc' := 197) rfl) ?_
          refine OG.trans (OG.goto C at_197 (by decide) (pc' := 201) (by decide)) ?_
          exact OG.refl
        exact OG.refl
      · refine OG.trans (OG.ifYes C at_148 ((if0 _ _).trans (feq hc).2) (by decide) (pc' := 196) (by decide)) ?_
        refine OG.trans (OG.iconst C at_196 (z := (1 : Int32)) rfl (pc' := 197) rfl) ?_
        refine OG.trans (OG.goto C at_197 (by decide) (pc' := 201) (by decide)) ?_
        exact OG.refl
      exact OG.refl
    · refine OG.trans (OG.ifYes C at_133 ((if0 _ _).trans (feq hc).2) (by decide) (pc' := 196) (by decide)) ?_
      refine OG.trans (OG.iconst C at_196 (z := (1 : Int32)) rfl (pc' := 197) rfl) ?_
      refine OG.trans (OG.goto C at_197 (by decide) (pc' := 201) (by decide)) ?_
      exact OG.refl
    exact OG.refl
  · refine OG.trans (OG.ifYes C at_118 ((if0 _ _).trans (feq hc).2) (by decide) (pc' := 196) (by decide)) ?_
    refine OG.trans (OG.iconst C at_196 (z := (1 : Int32)) rfl (pc' := 197) rfl) ?_
    refine OG.trans (OG.goto C at_197 (by decide) (pc' := 201) (by decide)) ?_
    exact OG.refl
  refine OG.ow (OG.istore C at_201 (ls' := #[.val (.long x0), .second, .val (.int x1), .val (.int x2), .val (.int x3), .val (.int cc), .val (.int ff), .val (.int (ff + cc)), .val (.ref a1), .val (.int (NUM [t0, t1, t2, t3, t4, t5] cc.toInt.toNat ff.toInt.toNat 0)), .val (.int (if (nar .boolean (F3 t0 (0 : Int32) ff (ff + cc))) = (0 : Int32) then (if (nar .boolean (F3 t1 (1 : Int32) ff (ff + cc))) = (0 : Int32) then (if (nar .boolean (F3 t2 (2 : Int32) ff (ff + cc))) = (0 : Int32) then (if (nar .boolean (F3 t3 (3 : Int32) ff (ff + cc))) = (0 : Int32) then (if (nar .boolean (F3 t4 (4 : Int32) ff (ff + cc))) = (0 : Int32) then (if (nar .boolean (F3 t5 (5 : Int32) ff (ff + cc))) = (0 : Int32) then (0 : Int32) else (1 : Int32)) else (1 : Int32)) else (1 : Int32)) else (1 : Int32)) else (1 : Int32)) else (1 : Int32))), .unset, .unset]) rfl (pc' := 203) rfl) ?_
  refine OG.ow (OG.iload C at_203 rfl (pc' := 205) rfl) ?_
  by_cases hc15 : (if (nar .boolean (F3 t0 (0 : Int32) ff (ff + cc))) = (0 : Int32) then (if (nar .boolean (F3 t1 (1 : Int32) ff (ff + cc))) = (0 : Int32) then (if (nar .boolean (F3 t2 (2 : Int32) ff (ff + cc))) = (0 : Int32) then (if (nar .boolean (F3 t3 (3 : Int32) ff (ff + cc))) = (0 : Int32) then (if (nar .boolean (F3 t4 (4 : Int32) ff (ff + cc))) = (0 : Int32) then (if (nar .boolean (F3 t5 (5 : Int32) ff (ff + cc))) = (0 : Int32) then (0 : Int32) else (1 : Int32)) else (1 : Int32)) else (1 : Int32)) else (1 : Int32)) else (1 : Int32)) else (1 : Int32)) = (0 : Int32)
  · refine OG.ow (OG.ifYes C at_205 ((if0 _ _).trans (teq hc15).1) (by decide) (pc' := 216) (by decide)) ?_
    refine OG.ow (OG.aload C at_216 rfl rfl (pc' := 218) rfl) ?_
    refine OG.ow (OG.iconst C at_218 (z := (0 : Int32)) rfl (pc' := 219) rfl) ?_
    refine OG.ow (OG.baload C G14 (own_ib (n := 6) rfl (by decide)) rfl at_219 (pc' := 220) rfl) ?_
    refine OG.ow (OG.iconst C at_220 (z := (0 : Int32)) rfl (pc' := 221) rfl) ?_
    refine OG.ow (OG.iload C at_221 rfl (pc' := 223) rfl) ?_
    refine OG.ow (OG.iload C at_223 rfl (pc' := 225) rfl) ?_
    refine OG.ow (OG.callS C (w17 hw) (w18 hw) (w4 hw) (w19 hw) (by decide) (b5 hw t0 (0 : Int32) ff (ff + cc)) at_225 pd_5 rfl (argsL := [(.int t0), (.int (0 : Int32)), (.int ff), (.int (ff + cc))]) (rest := []) rfl rfl (W := 0) rfl (by decide) (by decide) (pc' := 228) rfl) ?_
    refine OG.ow (OG.aload C at_228 rfl rfl (pc' := 230) rfl) ?_
    refine OG.ow (OG.iconst C at_230 (z := (1 : Int32)) rfl (pc' := 231) rfl) ?_
    refine OG.ow (OG.baload C G14 (own_ib (n := 6) rfl (by decide)) rfl at_231 (pc' := 232) rfl) ?_
    refine OG.ow (OG.iconst C at_232 (z := (1 : Int32)) rfl (pc' := 233) rfl) ?_
    refine OG.ow (OG.iload C at_233 rfl (pc' := 235) rfl) ?_
    refine OG.ow (OG.iload C at_235 rfl (pc' := 237) rfl) ?_
    refine OG.ow (OG.callS C (w17 hw) (w18 hw) (w4 hw) (w19 hw) (by decide) (b5 hw t1 (1 : Int32) ff (ff + cc)) at_237 pd_5 rfl (argsL := [(.int t1), (.int (1 : Int32)), (.int ff), (.int (ff + cc))]) (rest := [(.long (F5 t0 (0 : Int32) ff (ff + cc)))]) rfl rfl (W := 2) rfl (by decide) (by decide) (pc' := 240) rfl) ?_
    refine OG.ow (OG.ladd C at_240 (pc' := 241) rfl) ?_
    refine OG.ow (OG.aload C at_241 rfl rfl (pc' := 243) rfl) ?_
    refine OG.ow (OG.iconst C at_243 (z := (2 : Int32)) rfl (pc' := 244) rfl) ?_
    refine OG.ow (OG.baload C G14 (own_ib (n := 6) rfl (by decide)) rfl at_244 (pc' := 245) rfl) ?_
    refine OG.ow (OG.iconst C at_245 (z := (2 : Int32)) rfl (pc' := 246) rfl) ?_
    refine OG.ow (OG.iload C at_246 rfl (pc' := 248) rfl) ?_
    refine OG.ow (OG.iload C at_248 rfl (pc' := 250) rfl) ?_
    refine OG.ow (OG.callS C (w17 hw) (w18 hw) (w4 hw) (w19 hw) (by decide) (b5 hw t2 (2 : Int32) ff (ff + cc)) at_250 pd_5 rfl (argsL := [(.int t2), (.int (2 : Int32)), (.int ff), (.int (ff + cc))]) (rest := [(.long ((F5 t0 (0 : Int32) ff (ff + cc)) + (F5 t1 (1 : Int32) ff (ff + cc))))]) rfl rfl (W := 2) rfl (by decide) (by decide) (pc' := 253) rfl) ?_
    refine OG.ow (OG.ladd C at_253 (pc' := 254) rfl) ?_
    refine OG.ow (OG.aload C at_254 rfl rfl (pc' := 256) rfl) ?_
    refine OG.ow (OG.iconst C at_256 (z := (3 : Int32)) rfl (pc' := 257) rfl) ?_
    refine OG.ow (OG.baload C G14 (own_ib (n := 6) rfl (by decide)) rfl at_257 (pc' := 258) rfl) ?_
    refine OG.ow (OG.iconst C at_258 (z := (3 : Int32)) rfl (pc' := 259) rfl) ?_
    refine OG.ow (OG.iload C at_259 rfl (pc' := 261) rfl) ?_
    refine OG.ow (OG.iload C at_261 rfl (pc' := 263) rfl) ?_
    refine OG.ow (OG.callS C (w17 hw) (w18 hw) (w4 hw) (w19 hw) (by decide) (b5 hw t3 (3 : Int32) ff (ff + cc)) at_263 pd_5 rfl (argsL := [(.int t3), (.int (3 : Int32)), (.int ff), (.int (ff + cc))]) (rest := [(.long (((F5 t0 (0 : Int32) ff (ff + cc)) + (F5 t1 (1 : Int32) ff (ff + cc))) + (F5 t2 (2 : Int32) ff (ff + cc))))]) rfl rfl (W := 2) rfl (by decide) (by decide) (pc' := 266) rfl) ?_
    refine OG.ow (OG.ladd C at_266 (pc' := 267) rfl) ?_
    refine OG.ow (OG.aload C at_267 rfl rfl (pc' := 269) rfl) ?_
    refine OG.ow (OG.iconst C at_269 (z := (4 : Int32)) rfl (pc' := 270) rfl) ?_
    refine OG.ow (OG.baload C G14 (own_ib (n := 6) rfl (by decide)) rfl at_270 (pc' := 271) rfl) ?_
    refine OG.ow (OG.iconst C at_271 (z := (4 : Int32)) rfl (pc' := 272) rfl) ?_
    refine OG.ow (OG.iload C at_272 rfl (pc' := 274) rfl) ?_
    refine OG.ow (OG.iload C at_274 rfl (pc' := 276) rfl) ?_
    refine OG.ow (OG.callS C (w17 hw) (w18 hw) (w4 hw) (w19 hw) (by decide) (b5 hw t4 (4 : Int32) ff (ff + cc)) at_276 pd_5 rfl (argsL := [(.int t4), (.int (4 : Int32)), (.int ff), (.int (ff + cc))]) (rest := [(.long ((((F5 t0 (0 : Int32) ff (ff + cc)) + (F5 t1 (1 : Int32) ff (ff + cc))) + (F5 t2 (2 : Int32) ff (ff + cc))) + (F5 t3 (3 : Int32) ff (ff + cc))))]) rfl rfl (W := 2) rfl (by decide) (by decide) (pc' := 279) rfl) ?_
    refine OG.ow (OG.ladd C at_279 (pc' := 280) rfl) ?_
    refine OG.ow (OG.aload C at_280 rfl rfl (pc' := 282) rfl) ?_
    refine OG.ow (OG.iconst C at_282 (z := (5 : Int32)) rfl (pc' := 283) rfl) ?_
    refine OG.ow (OG.baload C G14 (own_ib (n := 6) rfl (by decide)) rfl at_283 (pc' := 284) rfl) ?_
    refine OG.ow (OG.iconst C at_284 (z := (5 : Int32)) rfl (pc' := 285) rfl) ?_
    refine OG.ow (OG.iload C at_285 rfl (pc' := 287) rfl) ?_
    refine OG.ow (OG.iload C at_287 rfl (pc' := 289) rfl) ?_
    refine OG.ow (OG.callS C (w17 hw) (w18 hw) (w4 hw) (w19 hw) (by decide) (b5 hw t5 (5 : Int32) ff (ff + cc)) at_289 pd_5 rfl (argsL := [(.int t5), (.int (5 : Int32)), (.int ff), (.int (ff + cc))]) (rest := [(.long (((((F5 t0 (0 : Int32) ff (ff + cc)) + (F5 t1 (1 : Int32) ff (ff + cc))) + (F5 t2 (2 : Int32) ff (ff + cc))) + (F5 t3 (3 : Int32) ff (ff + cc))) + (F5 t4 (4 : Int32) ff (ff + cc))))]) rfl rfl (W := 2) rfl (by decide) (by decide) (pc' := 292) rfl) ?_
    refine OG.ow (OG.ladd C at_292 (pc' := 293) rfl) ?_
    refine OG.ow (OG.lstore C at_293 (ls' := #[.val (.long x0), .second, .val (.int x1), .val (.int x2), .val (.int x3), .val (.int cc), .val (.int ff), .val (.int (ff + cc)), .val (.ref a1), .val (.int (NUM [t0, t1, t2, t3, t4, t5] cc.toInt.toNat ff.toInt.toNat 0)), .val (.int (if (nar .boolean (F3 t0 (0 : Int32) ff (ff + cc))) = (0 : Int32) then (if (nar .boolean (F3 t1 (1 : Int32) ff (ff + cc))) = (0 : Int32) then (if (nar .boolean (F3 t2 (2 : Int32) ff (ff + cc))) = (0 : Int32) then (if (nar .boolean (F3 t3 (3 : Int32) ff (ff + cc))) = (0 : Int32) then (if (nar .boolean (F3 t4 (4 : Int32) ff (ff + cc))) = (0 : Int32) then (if (nar .boolean (F3 t5 (5 : Int32) ff (ff + cc))) = (0 : Int32) then (0 : Int32) else (1 : Int32)) else (1 : Int32)) else (1 : Int32)) else (1 : Int32)) else (1 : Int32)) else (1 : Int32))), .val (.long ((((((F5 t0 (0 : Int32) ff (ff + cc)) + (F5 t1 (1 : Int32) ff (ff + cc))) + (F5 t2 (2 : Int32) ff (ff + cc))) + (F5 t3 (3 : Int32) ff (ff + cc))) + (F5 t4 (4 : Int32) ff (ff + cc))) + (F5 t5 (5 : Int32) ff (ff + cc)))), .second]) rfl (pc' := 295) rfl) ?_
    refine OG.ow (OG.iload C at_295 rfl (pc' := 297) rfl) ?_
    refine OG.ow (OG.i2l C at_297 (pc' := 298) rfl) ?_
    refine OG.ow (OG.lload C at_298 rfl (pc' := 300) rfl) ?_
    refine OG.ow (OG.lcmp C at_300 (pc' := 301) rfl) ?_
    refine OG.ow (OG.ifNo C at_301 (teqL (own_B t0 t1 t2 t3 t4 t5 ff cc r1 r2 r3 u0 u1 u2 u3 u4 u5 hc15)).2 (pc' := 304) rfl) ?_
    refine OG.ow (OG.iconst C at_304 (z := (1 : Int32)) rfl (pc' := 305) rfl) ?_
    refine OG.ow (OG.goto C at_305 (by decide) (pc' := 309) (by decide)) ?_
    refine OW.retN (t := .boolean) C (by simp) at_309 (by decide) (by decide) ?_
    rfl
  · refine OG.ow (OG.ifNo C at_205 ((if0 _ _).trans (feq hc15).1) (pc' := 208) rfl) ?_
    refine OG.ow (OG.ldcL C (w20 hw) at_208 (pc' := 211) rfl) ?_
    refine OG.ow (OG.lstore C at_211 (ls' := #[.val (.long x0), .second, .val (.int x1), .val (.int x2), .val (.int x3), .val (.int cc), .val (.int ff), .val (.int (ff + cc)), .val (.ref a1), .val (.int (NUM [t0, t1, t2, t3, t4, t5] cc.toInt.toNat ff.toInt.toNat 0)), .val (.int (if (nar .boolean (F3 t0 (0 : Int32) ff (ff + cc))) = (0 : Int32) then (if (nar .boolean (F3 t1 (1 : Int32) ff (ff + cc))) = (0 : Int32) then (if (nar .boolean (F3 t2 (2 : Int32) ff (ff + cc))) = (0 : Int32) then (if (nar .boolean (F3 t3 (3 : Int32) ff (ff + cc))) = (0 : Int32) then (if (nar .boolean (F3 t4 (4 : Int32) ff (ff + cc))) = (0 : Int32) then (if (nar .boolean (F3 t5 (5 : Int32) ff (ff + cc))) = (0 : Int32) then (0 : Int32) else (1 : Int32)) else (1 : Int32)) else (1 : Int32)) else (1 : Int32)) else (1 : Int32)) else (1 : Int32))), .val (.long (-1 : Int64)), .second]) rfl (pc' := 213) rfl) ?_
    refine OG.ow (OG.goto C at_213 (by decide) (pc' := 295) (by decide)) ?_
    refine OG.ow (OG.iload C at_295 rfl (pc' := 297) rfl) ?_
    refine OG.ow (OG.i2l C at_297 (pc' := 298) rfl) ?_
    refine OG.ow (OG.lload C at_298 rfl (pc' := 300) rfl) ?_
    refine OG.ow (OG.lcmp C at_300 (pc' := 301) rfl) ?_
    refine OG.ow (OG.ifNo C at_301 (teqL (own_A t0 t1 t2 t3 t4 t5 ff cc r1 r2 r3 u0 u1 u2 u3 u4 u5 hc15)).2 (pc' := 304) rfl) ?_
    refine OG.ow (OG.iconst C at_304 (z := (1 : Int32)) rfl (pc' := 305) rfl) ?_
    refine OG.ow (OG.goto C at_305 (by decide) (pc' := 309) (by decide)) ?_
    refine OW.retN (t := .boolean) C (by simp) at_309 (by decide) (by decide) ?_
    rfl
set_option maxRecDepth 65536 in
set_option maxHeartbeats 40000000 in
theorem comes_1 {Post : Tables → Env → Array Value → State → Outcome → State → Prop} (hpost : ∀ tb e args s v u, (limb_1_1.after args s (.returned v) u = true ∧ limb_1_2.after args s (.returned v) u = true ∧ True) → FrameEnd s (.returned v) u (Jvm.fieldLocs frame_1_writes args s ++ Jvm.arrayLocs frame_1_arrays args s ++ Jvm.staticLocs frame_1_statics s) 16 128 → Post tb e args s (.returned v) u) :
    ArmFor flags0 classFile x code maxLocals ret World_1 tables_1 room_1 Calls_1 rest_1 Pre_1 Post := by
  intro l hfl _ _ p e ha hc hk s m args below hf hA hF happ hP
  obtain ⟨hcalls, hrest, hpre⟩ := hP
  obtain ⟨-, -, -, hnamed, -, -, -, hat⟩ := (Spec.applies_iff hf).mp happ
  obtain ⟨hg, hn⟩ := and_e (Cond.before_iff.mp (show (Jvm.Cond.and given_1 narrow_1).before args s = true from hpre))
  obtain ⟨h1, q0⟩ := and_e hg
  obtain ⟨k0, q1⟩ := and_e q0
  obtain ⟨k1, q2⟩ := and_e q1
  obtain ⟨k2, q3⟩ := and_e q2
  obtain ⟨u0, u1, u2, u3, rfl⟩ : ∃ u0 u1 u2 u3 : Value, args = #[u0, u1, u2, u3] := by
    have hs : args.size = 4 := by simpa [Cond.value, given_1] using h1
    obtain ⟨L⟩ := args
    match L, hs with
    | [u0, u1, u2, u3], _ => exact ⟨u0, u1, u2, u3, rfl⟩
  have hw : HW #[u0, u1, u2, u3] s := fun d (hd : d ∈ tables_1) => atoms_spec (ws := Jvm.Cond.code x code maxLocals ret :: tables_1) hat d (List.mem_cons_of_mem _ hd)
  have hfit : Fit s := fun {y c} hc i hi => by
    obtain ⟨ha, rfl⟩ := Array.getElem?_eq_some_iff.mp hc
    have q := List.all_eq_true.mp ((Array.all_eq_true_iff_forall_mem.mp hF) _ (Array.getElem_mem ha)) i (List.mem_range.mpr hi)
    simpa [Array.getElem?_eq_getElem hi] using q
  obtain ⟨i0, e0⟩ := isL_v k0
  obtain rfl : u0 = (.long i0) := Option.some.inj e0
  obtain ⟨i1, e1⟩ := is_v k1
  obtain rfl : u1 = (.int i1) := Option.some.inj e1
  obtain ⟨i2, e2⟩ := is_v k2
  obtain rfl : u2 = (.int i2) := Option.some.inj e2
  obtain ⟨i3, e3⟩ := is_v q3
  obtain rfl : u3 = (.int i3) := Option.some.inj e3
  obtain ⟨n, o, h1, h2, h3, _, L, rfl, ⟨hv, N⟩, hq⟩ := b0 (l := l) hw i0 i1 i2 i3 (Nat.le_refl _) (n0 := s.heap.size) (h := s.heap) tables_1 p e ha hc hk s m _ below hf ((Spec.applies_iff_loose hf).mp happ).1 ⟨rfl, State.Warmed39.refl s, rfl⟩ trivial
  subst hv
  refine ⟨n, _, h1, h2, h3, hpost _ _ _ _ _ _ ⟨Cond.after_iff.mpr rfl, Cond.after_iff.mpr (eq_i res_at (Term.int_eval (1)) rfl), trivial⟩ ⟨hq.1, hq.2.1, (hq.2.2.sift fun y hy => Or.inr (N y hy)).mono (by decide) (by decide)⟩⟩
theorem main_1_1 : Claimed_1_1 := comes_1 fun _ _ _ _ _ _ h hF => ⟨h.1, hF⟩
theorem main_1_2 : Claimed_1_2 := comes_1 fun _ _ _ _ _ _ h hF => ⟨h.2.1, hF⟩
end Jvm.Pilot.@@N@@
namespace Jvm.Pilot.@@N@@
open Jvm Jvm.ClassFile Sem Op Lib Jvm.Free Jvm.Stand Jvm.Pilot.@@N@@.Jvm.D
/-! MADE BY PROGRAM (witnessworld.py) out of the Statement's table words and the real class files: 9 classes; the members and pool entries that the words name. The judged class is class 1, her method 1. -/
namespace start1
open Jvm.ClassFile
def u (s : String) : CpInfo := .utf8 (stringToUtf16 s)
/-- a pool by its gaps: so many unusable entries, then the entry; so many at the end -/
def gap : Nat → List CpInfo → List CpInfo
  | 0, r => r
  | n + 1, r => .unusable :: gap n r
def poolList (es : List (Nat × CpInfo)) (last : Nat) : List CpInfo := es.foldr (fun e r => gap e.1 (e.2 :: r)) (gap last [])
def pool (es : List (Nat × CpInfo)) (last : Nat) : Array CpInfo := ⟨poolList es last⟩
def fileOf (pool : Array CpInfo) (this : Nat) (attrs : Array Attribute := #[]) (ms : Array MethodInfo := #[]) (fl : Nat := 33) (sup : Nat := 0) (ifs : Array Nat := #[]) (fds : Array FieldInfo := #[]) : ClassFile where
  minorVersion := 0
  majorVersion := 65
  constantPool := pool
  accessFlags := fl
  thisClass := this
  superClass := sup
  interfaces := ifs
  fields := fds
  methods := ms
  attributes := attrs
def plain (name : String) (sup : Option ClassId) : Class where
  name := name
  kind := .ordinary
  loader := none
  accessFlags := 33
  super := sup
  interfaces := #[]
  cf := none
  fields := #[]
  methods := #[]
  instanceTypes := #[]
  staticTypes := #[]
  resolved := #[]
  callSites := []
  init := .initialized
  statics := none
  mirror := none

def pool0 : Array CpInfo := pool [(5, u "<init>"), (0, u "()V"), (1, .class_ 10), (1, u "java/lang/Object")] 113

def k0m0 : Method := { name := "<init>", desc := "()V", sig := { parameters := [], returnType := none }, accessFlags := 1, code := none }
/-- java/lang/Object -/
def k0 : Class := { plain "java/lang/Object" none with
  accessFlags := 33
  interfaces := #[]
  cf := some (fileOf pool0 8 #[] #[{ accessFlags := 1, nameIndex := 5, descriptorIndex := 6, attributes := #[] }] 33 0 #[] #[])
  fields := #[]
  methods := #[k0m0]
  instanceTypes := #[]
  staticTypes := #[]
  resolved := Array.replicate 124 none
  statics := none }

def pool1 : Array CpInfo := pool [(2, .class_ 4), (1, u "java/lang/Object"), (0, u "<init>"), (0, u "()V"), (0, .integer 2147483647), (0, .methodref 9 10), (0, .class_ 11), (0, .nameAndType 12 13), (0, u "com/example/kartoteka/kartoteka/iso2709/LayoutNumberPinLaw"), (0, u "draw"), (0, u "(JII)B"), (0, .methodref 15 16), (0, .class_ 17), (0, .nameAndType 18 19), (0, u "com/example/kartoteka/kartoteka/iso2709/Layout"), (0, u "number"), (0, u "([BII)I"), (0, .methodref 9 21), (0, .nameAndType 22 23), (0, u "bad"), (0, u "(BIII)Z"), (0, .long 18446744073709551615), (1, .methodref 9 27), (0, .nameAndType 28 29), (0, u "value"), (0, u "(BIII)J"), (0, .long 255), (1, .methodref 9 33), (0, .nameAndType 34 35), (0, u "inRange"), (0, u "(III)Z"), (0, .methodref 9 37), (0, .nameAndType 38 39), (0, u "pow10"), (0, u "(I)J"), (0, .long 10), (1, .long 100), (1, .long 1000), (1, .long 10000), (1, .long 100000), (3, u "law"), (0, u "(JIII)Z")] 5

def k1m0 : Method := { name := "<init>", desc := "()V", sig := { parameters := [], returnType := none }, accessFlags := 1, code := none }
def k1c1 : Code := { maxStack := 6, maxLocals := 13, code := code, exceptionTable := #[], attributes := #[] }
def k1m1 : Method := { name := "law", desc := "(JIII)Z", sig := { parameters := [.long, .int, .int, .int], returnType := some .boolean }, accessFlags := 9, code := some k1c1 }
def k1c2 : Code := { maxStack := 4, maxLocals := 5, code := method_3_code, exceptionTable := #[], attributes := #[] }
def k1m2 : Method := { name := "draw", desc := "(JII)B", sig := { parameters := [.long, .int, .int], returnType := some .byte }, accessFlags := 10, code := some k1c2 }
def k1c3 : Code := { maxStack := 2, maxLocals := 3, code := method_4_code, exceptionTable := #[], attributes := #[] }
def k1m3 : Method := { name := "inRange", desc := "(III)Z", sig := { parameters := [.int, .int, .int], returnType := some .boolean }, accessFlags := 10, code := some k1c3 }
def k1c4 : Code := { maxStack := 3, maxLocals := 4, code := method_5_code, exceptionTable := #[], attributes := #[] }
def k1m4 : Method := { name := "bad", desc := "(BIII)Z", sig := { parameters := [.byte, .int, .int, .int], returnType := some .boolean }, accessFlags := 10, code := some k1c4 }
def k1c5 : Code := { maxStack := 4, maxLocals := 4, code := method_6_code, exceptionTable := #[], attributes := #[] }
def k1m5 : Method := { name := "value", desc := "(BIII)J", sig := { parameters := [.byte, .int, .int, .int], returnType := some .long }, accessFlags := 10, code := some k1c5 }
def k1c6 : Code := { maxStack := 2, maxLocals := 1, code := method_7_code, exceptionTable := #[], attributes := #[] }
def k1m6 : Method := { name := "pow10", desc := "(I)J", sig := { parameters := [.int], returnType := some .long }, accessFlags := 10, code := some k1c6 }
/-- com/example/kartoteka/kartoteka/iso2709/LayoutNumberPinLaw -/
def k1 : Class := { plain "com/example/kartoteka/kartoteka/iso2709/LayoutNumberPinLaw" (some 0) with
  accessFlags := 49
  interfaces := #[]
  cf := some (fileOf pool1 9 #[] #[{ accessFlags := 1, nameIndex := 5, descriptorIndex := 6, attributes := #[] }, { accessFlags := 9, nameIndex := 52, descriptorIndex := 53, attributes := #[] }, { accessFlags := 10, nameIndex := 12, descriptorIndex := 13, attributes := #[] }, { accessFlags := 10, nameIndex := 34, descriptorIndex := 35, attributes := #[] }, { accessFlags := 10, nameIndex := 22, descriptorIndex := 23, attributes := #[] }, { accessFlags := 10, nameIndex := 28, descriptorIndex := 29, attributes := #[] }, { accessFlags := 10, nameIndex := 38, descriptorIndex := 39, attributes := #[] }] 49 2 #[] #[])
  fields := #[]
  methods := #[k1m0, k1m1, k1m2, k1m3, k1m4, k1m5, k1m6]
  instanceTypes := #[]
  staticTypes := #[]
  resolved := Array.replicate 59 none
  statics := none }

def pool2 : Array CpInfo := pool [(2, .class_ 4), (1, u "java/lang/Object"), (0, u "<init>"), (0, u "()V"), (9, .class_ 18), (1, u "com/example/kartoteka/kartoteka/iso2709/Layout"), (32, u "FIELD_TERMINATOR"), (0, u "B"), (2, u "RECORD_TERMINATOR"), (1, u "NUMBER_DIGITS"), (0, u "I"), (1, u "LONGEST_RECORD"), (1, u "RECORD_LENGTH"), (1, u "BASE_ADDRESS"), (1, u "TAG_LENGTH"), (1, u "INDICATOR_LENGTH"), (1, u "IDENTIFIER_LENGTH"), (1, u "ENTRY_MAP"), (6, u "number"), (0, u "([BII)I"), (3, .class_ 85), (0, u "com/example/kartoteka/kartoteka/iso2709/Layout$EntryMap")] 18

def k2m0 : Method := { name := "<init>", desc := "()V", sig := { parameters := [], returnType := none }, accessFlags := 2, code := none }
def k2c1 : Code := { maxStack := 3, maxLocals := 5, code := prog_55_method_6_code, exceptionTable := #[], attributes := #[] }
def k2m1 : Method := { name := "number", desc := "([BII)I", sig := { parameters := [(.array .byte), .int, .int], returnType := some .int }, accessFlags := 8, code := some k2c1 }
/-- com/example/kartoteka/kartoteka/iso2709/Layout -/
def k2 : Class := { plain "com/example/kartoteka/kartoteka/iso2709/Layout" (some 0) with
  accessFlags := 48
  interfaces := #[]
  cf := some (fileOf pool2 16 #[.nestMembers #[84]] #[{ accessFlags := 2, nameIndex := 5, descriptorIndex := 6, attributes := #[] }, { accessFlags := 8, nameIndex := 79, descriptorIndex := 80, attributes := #[] }] 48 2 #[] #[{ accessFlags := 24, nameIndex := 51, descriptorIndex := 52, attributes := #[] }, { accessFlags := 24, nameIndex := 55, descriptorIndex := 52, attributes := #[] }, { accessFlags := 24, nameIndex := 57, descriptorIndex := 58, attributes := #[] }, { accessFlags := 24, nameIndex := 60, descriptorIndex := 58, attributes := #[] }, { accessFlags := 24, nameIndex := 62, descriptorIndex := 58, attributes := #[] }, { accessFlags := 24, nameIndex := 64, descriptorIndex := 58, attributes := #[] }, { accessFlags := 24, nameIndex := 66, descriptorIndex := 58, attributes := #[] }, { accessFlags := 26, nameIndex := 68, descriptorIndex := 58, attributes := #[] }, { accessFlags := 26, nameIndex := 70, descriptorIndex := 58, attributes := #[] }, { accessFlags := 26, nameIndex := 72, descriptorIndex := 58, attributes := #[] }])
  fields := #[{ name := "FIELD_TERMINATOR", type := .byte, accessFlags := 24, slot := 0, constantValue := 0 }, { name := "RECORD_TERMINATOR", type := .byte, accessFlags := 24, slot := 1, constantValue := 0 }, { name := "NUMBER_DIGITS", type := .int, accessFlags := 24, slot := 2, constantValue := 0 }, { name := "LONGEST_RECORD", type := .int, accessFlags := 24, slot := 3, constantValue := 0 }, { name := "RECORD_LENGTH", type := .int, accessFlags := 24, slot := 4, constantValue := 0 }, { name := "BASE_ADDRESS", type := .int, accessFlags := 24, slot := 5, constantValue := 0 }, { name := "TAG_LENGTH", type := .int, accessFlags := 24, slot := 6, constantValue := 0 }, { name := "INDICATOR_LENGTH", type := .int, accessFlags := 26, slot := 7, constantValue := 0 }, { name := "IDENTIFIER_LENGTH", type := .int, accessFlags := 26, slot := 8, constantValue := 0 }, { name := "ENTRY_MAP", type := .int, accessFlags := 26, slot := 9, constantValue := 0 }]
  methods := #[k2m0, k2m1]
  instanceTypes := #[]
  staticTypes := #[.byte, .byte, .int, .int, .int, .int, .int, .int, .int, .int]
  resolved := Array.replicate 104 none
  statics := none }

def pool3 : Array CpInfo := pool [(1, u "java/lang/Cloneable"), (0, .class_ 1), (0, u "java/lang/Object"), (0, .class_ 3)] 3

/-- java/lang/Cloneable -/
def k3 : Class := { plain "java/lang/Cloneable" (some 0) with
  accessFlags := 1537
  interfaces := #[]
  cf := some (fileOf pool3 2 #[] #[] 1537 4 #[] #[])
  fields := #[]
  methods := #[]
  instanceTypes := #[]
  staticTypes := #[]
  resolved := Array.replicate 8 none
  statics := none }

def pool4 : Array CpInfo := pool [(1, u "java/io/Serializable"), (0, .class_ 1), (0, u "java/lang/Object"), (0, .class_ 3)] 3

/-- java/io/Serializable -/
def k4 : Class := { plain "java/io/Serializable" (some 0) with
  accessFlags := 1537
  interfaces := #[]
  cf := some (fileOf pool4 2 #[] #[] 1537 4 #[] #[])
  fields := #[]
  methods := #[]
  instanceTypes := #[]
  staticTypes := #[]
  resolved := Array.replicate 8 none
  statics := none }

/-- the primitive byte -/
def k5 : Class := { plain "byte" none with kind := .primitive 'B', accessFlags := 0x411 }
/-- [B -/
def k6 : Class := { plain "[B" (some 0) with kind := .array 5 .byte, interfaces := #[3, 4], accessFlags := 1041 }

/-- the primitive int -/
def k7 : Class := { plain "int" none with kind := .primitive 'I', accessFlags := 0x411 }
/-- [I -/
def k8 : Class := { plain "[I" (some 0) with kind := .array 7 .int, interfaces := #[3, 4], accessFlags := 1041 }

def heap : Heap := #[]
def classes : Array Class := #[k0, k1, k2, k3, k4, k5, k6, k7, k8]
def interned : List (Array UInt16 × Addr) := []
def slotsUsed : Nat := 0
def theMethod : MethodId := ⟨1, 1⟩
def args0 : Array Value := #[.long 5, .int 3, .int 2, .int 3]
def aboutOver (below : List Frame) : State where
  vm := { classes := classes, interned := interned.toArray }
  heap := heap
  slotsUsed := slotsUsed
  threads := #[{ frames := .invoking theMethod args0 :: below }]
def below0 : List Frame := [.native { method := ⟨0, 0⟩, args := #[] }]
def about1 : State := aboutOver below0
def p0 : Program := .bare "" "" ""
def e0 : Env := launch0.env 0 0 0
theorem w_frames : about1.frames = Frame.invoking theMethod args0 :: below0 := rfl
set_option maxRecDepth 65536 in
theorem w_args : argsFit about1.vm theMethod args0 = true := by decide +kernel
set_option maxRecDepth 65536 in
theorem w_heap : heapFits about1 = true := by decide +kernel
set_option maxRecDepth 65536 in
theorem w_runnable : about1.curStatus? = some .runnable := by decide +kernel
set_option maxRecDepth 65536 in
theorem w_alone : about1.alone = true := by decide +kernel
set_option maxRecDepth 65536 in
theorem w_named : about1.methodNamed? x = some theMethod := by decide +kernel
set_option maxRecDepth 65536 in
theorem w_hears : about1.hears theMethod below0 = true := by decide +kernel
set_option maxRecDepth 65536 in
theorem w_ripe : about1.ripe theMethod args0 below0 = true := by decide +kernel
theorem w_running : about1.status = .running := rfl
set_option maxRecDepth 65536 in
theorem w_room : about1.hasRoom e0.platform room_1 = true :=
  launch0.hasRoom_least _ room_1 (by decide +kernel) (by decide +kernel) (by decide +kernel) (by decide +kernel) (by decide +kernel) (by decide +kernel)
theorem allAtoms_all (ts : List Jvm.Cond) (a : Array Jvm.Value) (st : Jvm.State) : (allAtoms ts).before a st = ts.all (fun c => c.before a st) := by
  induction ts with
  | nil => rfl
  | cons c t ih =>
    show (Jvm.Cond.and c (allAtoms t)).before a st = _
    rw [Jvm.Cond.before_and, ih, List.all_cons]
def words1 : List Jvm.Cond := Jvm.Cond.code x code maxLocals ret :: tables_1
/-- a 'code' word, met by the world's own term for the bytes: nothing is compared byte by byte -/
theorem code_word {y : MethodName} {bytes : ByteArray} {mx : Nat} {rt : Option FieldType} {a : Array Value} {s : State} {m : MethodId} {meth : Method} {c : Code} (h1 : s.methodNamed? y = some m) (h2 : s.vm.method? m = some meth) (h3 : meth.code = some c) (h4 : c.code = bytes)
    (h5 : (c.maxLocals == mx && c.exceptionTable.isEmpty && decide (c.maxStack ≤ mostOperands) && decide (meth.sig.returnType = rt) && !meth.locks && decide (parseMethodDescriptor y.desc = some meth.sig)) = true) : (Jvm.Cond.code y bytes mx rt).before a s = true := by
  simp only [Bool.and_eq_true, beq_iff_eq, Bool.not_eq_true', decide_eq_true_eq] at h5
  obtain ⟨⟨⟨⟨⟨g1, g2⟩, g3⟩, g4⟩, g5⟩, g6⟩ := h5
  simp [Cond.before, Cond.holds, Cond.value, h1, h2, h3, h4, g1, g2, g3, g4, g5, g6]
def isCode : Jvm.Cond → Bool
  | .code _ _ _ _ => true
  | _ => false
theorem all_split {L : List Jvm.Cond} {P : Jvm.Cond → Bool} (h1 : L.all (fun c => isCode c || P c) = true) (h2 : ∀ c ∈ L.filter isCode, P c = true) : L.all P = true := by
  refine List.all_eq_true.mpr fun c hc => ?_
  have h := List.all_eq_true.mp h1 c hc
  rcases Bool.eq_false_or_eq_true (isCode c) with hi | hi
  · exact h2 c (List.mem_filter.mpr ⟨hc, hi⟩)
  · simpa [hi] using h
set_option maxRecDepth 65536 in
theorem w_c0 : (Jvm.Cond.code x code maxLocals ret).before args0 about1 = true := code_word (m := ⟨1, 1⟩) (meth := k1m1) (c := k1c1) (by decide +kernel) rfl rfl rfl (by decide +kernel)
set_option maxRecDepth 65536 in
theorem w_c1 : (Jvm.Cond.code ({ cls := "com/example/kartoteka/kartoteka/iso2709/LayoutNumberPinLaw", name := "draw", desc := "(JII)B" } : Jvm.MethodName) method_3_code (5 : Nat) (Option.some Jvm.ClassFile.FieldType.byte)).before args0 about1 = true := code_word (m := ⟨1, 2⟩) (meth := k1m2) (c := k1c2) (by decide +kernel) rfl rfl rfl (by decide +kernel)
set_option maxRecDepth 65536 in
theorem w_c2 : (Jvm.Cond.code ({ cls := "com/example/kartoteka/kartoteka/iso2709/Layout", name := "number", desc := "([BII)I" } : Jvm.MethodName) prog_55_method_6_code (5 : Nat) (Option.some Jvm.ClassFile.FieldType.int)).before args0 about1 = true := code_word (m := ⟨2, 1⟩) (meth := k2m1) (c := k2c1) (by decide +kernel) rfl rfl rfl (by decide +kernel)
set_option maxRecDepth 65536 in
theorem w_c3 : (Jvm.Cond.code ({ cls := "com/example/kartoteka/kartoteka/iso2709/LayoutNumberPinLaw", name := "bad", desc := "(BIII)Z" } : Jvm.MethodName) method_5_code (4 : Nat) (Option.some Jvm.ClassFile.FieldType.boolean)).before args0 about1 = true := code_word (m := ⟨1, 4⟩) (meth := k1m4) (c := k1c4) (by decide +kernel) rfl rfl rfl (by decide +kernel)
set_option maxRecDepth 65536 in
theorem w_c4 : (Jvm.Cond.code ({ cls := "com/example/kartoteka/kartoteka/iso2709/LayoutNumberPinLaw", name := "inRange", desc := "(III)Z" } : Jvm.MethodName) method_4_code (3 : Nat) (Option.some Jvm.ClassFile.FieldType.boolean)).before args0 about1 = true := code_word (m := ⟨1, 3⟩) (meth := k1m3) (c := k1c3) (by decide +kernel) rfl rfl rfl (by decide +kernel)
set_option maxRecDepth 65536 in
theorem w_c5 : (Jvm.Cond.code ({ cls := "com/example/kartoteka/kartoteka/iso2709/LayoutNumberPinLaw", name := "value", desc := "(BIII)J" } : Jvm.MethodName) method_6_code (4 : Nat) (Option.some Jvm.ClassFile.FieldType.long)).before args0 about1 = true := code_word (m := ⟨1, 5⟩) (meth := k1m5) (c := k1c5) (by decide +kernel) rfl rfl rfl (by decide +kernel)
set_option maxRecDepth 65536 in
theorem w_c6 : (Jvm.Cond.code ({ cls := "com/example/kartoteka/kartoteka/iso2709/LayoutNumberPinLaw", name := "pow10", desc := "(I)J" } : Jvm.MethodName) method_7_code (1 : Nat) (Option.some Jvm.ClassFile.FieldType.long)).before args0 about1 = true := code_word (m := ⟨1, 6⟩) (meth := k1m6) (c := k1c6) (by decide +kernel) rfl rfl rfl (by decide +kernel)
def codes1 : List Jvm.Cond := [Jvm.Cond.code x code maxLocals ret, Jvm.Cond.code ({ cls := "com/example/kartoteka/kartoteka/iso2709/LayoutNumberPinLaw", name := "draw", desc := "(JII)B" } : Jvm.MethodName) method_3_code (5 : Nat) (Option.some Jvm.ClassFile.FieldType.byte), Jvm.Cond.code ({ cls := "com/example/kartoteka/kartoteka/iso2709/Layout", name := "number", desc := "([BII)I" } : Jvm.MethodName) prog_55_method_6_code (5 : Nat) (Option.some Jvm.ClassFile.FieldType.int), Jvm.Cond.code ({ cls := "com/example/kartoteka/kartoteka/iso2709/LayoutNumberPinLaw", name := "bad", desc := "(BIII)Z" } : Jvm.MethodName) method_5_code (4 : Nat) (Option.some Jvm.ClassFile.FieldType.boolean), Jvm.Cond.code ({ cls := "com/example/kartoteka/kartoteka/iso2709/LayoutNumberPinLaw", name := "inRange", desc := "(III)Z" } : Jvm.MethodName) method_4_code (3 : Nat) (Option.some Jvm.ClassFile.FieldType.boolean), Jvm.Cond.code ({ cls := "com/example/kartoteka/kartoteka/iso2709/LayoutNumberPinLaw", name := "value", desc := "(BIII)J" } : Jvm.MethodName) method_6_code (4 : Nat) (Option.some Jvm.ClassFile.FieldType.long), Jvm.Cond.code ({ cls := "com/example/kartoteka/kartoteka/iso2709/LayoutNumberPinLaw", name := "pow10", desc := "(I)J" } : Jvm.MethodName) method_7_code (1 : Nat) (Option.some Jvm.ClassFile.FieldType.long)]
set_option maxRecDepth 65536 in
theorem codes_eq : words1.filter isCode = codes1 := rfl
theorem w_codes : ∀ c ∈ words1.filter isCode, c.before args0 about1 = true := by
  rw [codes_eq]
  intro c hc
  simp only [codes1, List.mem_cons, List.not_mem_nil, or_false] at hc
  rcases hc with rfl | rfl | rfl | rfl | rfl | rfl | rfl
  · exact w_c0
  · exact w_c1
  · exact w_c2
  · exact w_c3
  · exact w_c4
  · exact w_c5
  · exact w_c6
set_option maxRecDepth 65536 in
theorem w_t1 : (words1.take 24).all (fun c => isCode c || c.before args0 about1) = true := by decide +kernel
set_option maxRecDepth 65536 in
theorem w_t2 : (words1.drop 24).all (fun c => isCode c || c.before args0 about1) = true := by decide +kernel
theorem w_tables : (allAtoms (Jvm.Cond.code x code maxLocals ret :: tables_1)).before args0 about1 = true := by
  rw [allAtoms_all]
  show words1.all (fun c => c.before args0 about1) = true
  refine all_split ?_ w_codes
  rw [← List.take_append_drop 24 words1, List.all_append, w_t1, w_t2]
  rfl
set_option maxRecDepth 65536 in
theorem w_case : (Jvm.Cond.and given_1 narrow_1).before args0 about1 = true := by decide +kernel
theorem w_applies : (headSpec (Jvm.Cond.code x code maxLocals ret :: tables_1) room_1).applies x e0.platform about1 = true :=
  (Spec.applies_iff w_frames).mpr ⟨w_running, w_runnable, w_alone, w_named, w_hears, w_ripe, w_room, w_tables⟩
theorem atStart : AtStart classFile x code maxLocals ret World_1 tables_1 room_1 Calls_1 rest_1 Pre_1 launch0 p0 e0 about1 theMethod args0 below0 :=
  ⟨lists_1, trivial, launch0.admits_env _ _ _, launch0.least_env, fairChoices_fair.cas, fairChoices_fair.clock, w_frames, w_args, w_heap, w_applies, trivial, trivial, w_case⟩
end start1
theorem witness_1 : WitnessClaimed_1 := ⟨start1.p0, start1.e0, start1.about1, start1.theMethod, start1.args0, start1.below0, start1.atStart⟩
end Jvm.Pilot.@@N@@
