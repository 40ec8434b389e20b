import JvmDerived
import JvmDerived.Pilot.@@N@@Statement
import JvmDerived.Pilot.@@N@@Code
set_option linter.unusedVariables false
set_option linter.unusedSimpArgs false
namespace Jvm.RoadKit
open Sem ClassFile Op Lib Jvm.Stand Jvm.Free Jvm.LawKit
section Own
variable {p : Program} {l : Launch} {e : Env} {R : Room} {s : State} {m : MethodId} {args : Array Value} {below : List Frame} {meth : Method} {c : Code} {Z : State} {a0 : Array Value}
/-- what a body's walk stands on -/
def OC (p : Program) (s : State) (m : MethodId) (meth : Method) (c : Code) (Z : State) (own nm : String) (bytes : ByteArray) (ml : Nat) (ret : Option FieldType) : Prop :=
  p.tables.exec = Jvm.exec ∧ c.code = bytes ∧ Z.Warmed39 s.vm ∧ s.vm.findClass own = some m.cls ∧ c.maxLocals = ml ∧ meth.sig.returnType = ret ∧ meth.locks = false ∧ meth.name = nm
/-- where the walk stands: the heap, what has been made, what has been written -/
def OS (p : Program) (l : Launch) (e : Env) (R : Room) (s : State) (m : MethodId) (args : Array Value) (below : List Frame) (meth : Method) (c : Code) (n0 : Nat) (h : Heap) (cl sl : Nat) (T : State) (locs : List Loc) : Prop :=
  Stand p l e R s m args below meth c T locs cl sl ∧ Fr n0 locs ∧ T.heap = h ∧ cl ≤ R.cells ∧ sl ≤ R.slots
/-- a run that leaves the heap as it is: from the frame g to the frame g' -/
def OG (p : Program) (l : Launch) (e : Env) (R : Room) (s : State) (m : MethodId) (args : Array Value) (below : List Frame) (meth : Method) (c : Code) (n0 : Nat) (h : Heap) (g g' : JFrame) : Prop :=
  ∀ T locs cl sl, OS p l e R s m args below meth c n0 h cl sl T locs →
    ∃ T' locs', OS p l e R s m args below meth c n0 h cl sl T' locs' ∧ ∀ target, Steps p.tables e below (T'.setTop g') target → Steps p.tables e below (T.setTop g) target
/-- what is left to run from the frame g: it returns, and Q holds of what it returns and of the heap -/
def OW (p : Program) (l : Launch) (e : Env) (R : Room) (s : State) (m : MethodId) (args : Array Value) (below : List Frame) (meth : Method) (c : Code) (n0 : Nat) (Q : Option Value → Heap → Prop) (K N : Nat) (h : Heap) (cl sl : Nat) (g : JFrame) : Prop :=
  ∀ T locs, OS p l e R s m args below meth c n0 h cl sl T locs →
    ∃ s₂ o, Steps p.tables e below (T.setTop g) s₂ ∧ s₂.status = .running ∧ Ended s₂ below o ∧ ∃ v L, o = .returned v ∧ (Q v s₂.heap ∧ Fr n0 L) ∧ FrameEnd s o s₂ L K N
variable {own nm : String} {bytes : ByteArray} {ml n0 K N : Nat} {ret : Option FieldType} {Q : Option Value → Heap → Prop} {h : Heap} {cl sl : Nat} {g g' g'' : JFrame} {pc pc' : Nat} {ls ls' : Array Slot} {st : List Value}
theorem OG.refl : OG p l e R s m args below meth c n0 h g g := fun T locs _ _ X => ⟨T, locs, X, fun _ k => k⟩
theorem OG.trans (A : OG p l e R s m args below meth c n0 h g g') (B : OG p l e R s m args below meth c n0 h g' g'') : OG p l e R s m args below meth c n0 h g g'' := fun T locs cl sl X => by
  obtain ⟨T1, L1, X1, k1⟩ := A T locs cl sl X
  obtain ⟨T2, L2, X2, k2⟩ := B T1 L1 cl sl X1
  exact ⟨T2, L2, X2, fun t k => k1 t (k2 t k)⟩
theorem OG.ow (A : OG p l e R s m args below meth c n0 h g g') (B : OW p l e R s m args below meth c n0 Q K N h cl sl g') : OW p l e R s m args below meth c n0 Q K N h cl sl g := fun T locs X => by
  obtain ⟨T1, L1, X1, k1⟩ := A T locs cl sl X
  obtain ⟨s₂, o, q, r⟩ := B T1 L1 X1
  exact ⟨s₂, o, k1 _ q, r⟩
theorem OG.cast (A : OG p l e R s m args below meth c n0 h g g') (q : g' = g'') : OG p l e R s m args below meth c n0 h g g'' := q ▸ A
theorem OW.cast (q : g = g') (A : OW p l e R s m args below meth c n0 Q K N h cl sl g') : OW p l e R s m args below meth c n0 Q K N h cl sl g := q ▸ A
theorem OW.more {cl' sl' : Nat} (A : OW p l e R s m args below meth c n0 Q K N h cl' sl' g) (q1 : cl ≤ cl') (q2 : sl ≤ sl') (q3 : cl' ≤ R.cells) (q4 : sl' ≤ R.slots) : OW p l e R s m args below meth c n0 Q K N h cl sl g := fun T locs X => A T locs ⟨X.1.more q1 q2, X.2.1, X.2.2.1, q3, q4⟩
/-- the two arms of a branch meet -/
theorem OG.ite {α : Type} {P : Prop} [Decidable P] {f : α → JFrame} {x y : α} (A : P → OG p l e R s m args below meth c n0 h g (f x)) (B : ¬ P → OG p l e R s m args below meth c n0 h g (f y)) : OG p l e R s m args below meth c n0 h g (f (if P then x else y)) := by
  by_cases q : P
  · rw [if_pos q]; exact A q
  · rw [if_neg q]; exact B q
theorem OG.of (k : ∀ (s' : State) T locs cl sl, Stand p l e R s' m args below meth c T locs cl sl → ∀ target, Steps p.tables e below (T.setTop g') target → Steps p.tables e below (T.setTop g) target) : OG p l e R s m args below meth c n0 h g g' :=
  fun T locs _ _ X => ⟨T, locs, X, k _ T locs _ _ X.1⟩
theorem OC.d (C : OC p s m meth c Z own nm bytes ml ret) {r : Except DecodeError (Instr × Nat)} (q : decode bytes pc = r) : decode c.code pc = r := by rw [C.2.1]; exact q
theorem own_fr {x z : Int32} (q : x = z) : mkF m pc ls (.int x :: st) = mkF m pc ls (.int z :: st) := by rw [q]
theorem OG.ite0 {P : Prop} [Decidable P] (A : P → OG p l e R s m args below meth c n0 h g g') (B : ¬ P → OG p l e R s m args below meth c n0 h g g') : OG p l e R s m args below meth c n0 h g g' := by
  by_cases q : P
  · exact A q
  · exact B q
theorem OG.ite2 {α β : Type} {P : Prop} [Decidable P] {f : α → β → JFrame} {x y : α} {x' y' : β} (A : P → OG p l e R s m args below meth c n0 h g (f x x')) (B : ¬ P → OG p l e R s m args below meth c n0 h g (f y y')) : OG p l e R s m args below meth c n0 h g (f (if P then x else y) (if P then x' else y')) := by
  by_cases q : P
  · rw [if_pos q, if_pos q]; exact A q
  · rw [if_neg q, if_neg q]; exact B q
theorem OG.iloadN (C : OC p s m meth c Z own nm bytes ml ret) {k : Fin 4} {v : Int32} (hd : decode bytes pc = .ok (.iload_n k, 1)) (hl : ls[k.val]? = some (.val (.int v))) (hp : pc + 1 = pc') : OG p l e R s m args below meth c n0 h (mkF m pc ls st) (mkF m pc' ls (.int v :: st)) := by
  subst hp
  exact OG.of fun s' T locs cl sl X target k => XS.iloadN X.here C.1 rfl (C.d hd) hl k
theorem OG.iload (C : OC p s m meth c Z own nm bytes ml ret) {k : Nat} {v : Int32} (hd : decode bytes pc = .ok (.iload k, 2)) (hl : ls[k]? = some (.val (.int v))) (hp : pc + 2 = pc') : OG p l e R s m args below meth c n0 h (mkF m pc ls st) (mkF m pc' ls (.int v :: st)) := by
  subst hp
  exact OG.of fun s' T locs cl sl X target k => XS.iload X.here C.1 rfl (C.d hd) hl k
theorem OG.lloadN (C : OC p s m meth c Z own nm bytes ml ret) {k : Fin 4} {v : Int64} (hd : decode bytes pc = .ok (.lload_n k, 1)) (hl : ls[k.val]? = some (.val (.long v))) (hp : pc + 1 = pc') : OG p l e R s m args below meth c n0 h (mkF m pc ls st) (mkF m pc' ls (.long v :: st)) := by
  subst hp
  exact OG.of fun s' T locs cl sl X target k => XS.lloadN X.here C.1 rfl (C.d hd) hl k
theorem OG.lload (C : OC p s m meth c Z own nm bytes ml ret) {k : Nat} {v : Int64} (hd : decode bytes pc = .ok (.lload k, 2)) (hl : ls[k]? = some (.val (.long v))) (hp : pc + 2 = pc') : OG p l e R s m args below meth c n0 h (mkF m pc ls st) (mkF m pc' ls (.long v :: st)) := by
  subst hp
  exact OG.of fun s' T locs cl sl X target k => XS.lload X.here C.1 rfl (C.d hd) hl k
theorem OG.aloadN (C : OC p s m meth c Z own nm bytes ml ret) {k : Fin 4} {v : Value} (hd : decode bytes pc = .ok (.aload_n k, 1)) (hl : ls[k.val]? = some (.val v)) (hv : v.isRef = true) (hp : pc + 1 = pc') : OG p l e R s m args below meth c n0 h (mkF m pc ls st) (mkF m pc' ls (v :: st)) := by
  subst hp
  exact OG.of fun s' T locs cl sl X target k => XS.aloadN X.here C.1 rfl (C.d hd) hl hv k
theorem OG.aload (C : OC p s m meth c Z own nm bytes ml ret) {k : Nat} {v : Value} (hd : decode bytes pc = .ok (.aload k, 2)) (hl : ls[k]? = some (.val v)) (hv : v.isRef = true) (hp : pc + 2 = pc') : OG p l e R s m args below meth c n0 h (mkF m pc ls st) (mkF m pc' ls (v :: st)) := by
  subst hp
  exact OG.of fun s' T locs cl sl X target k => XS.aload X.here C.1 rfl (C.d hd) hl hv k
theorem OG.istoreN (C : OC p s m meth c Z own nm bytes ml ret) {k : Fin 4} {v : Int32} (hd : decode bytes pc = .ok (.istore_n k, 1)) (hl : storeLocals ls k.val (.int v) = some ls') (hp : pc + 1 = pc') : OG p l e R s m args below meth c n0 h (mkF m pc ls (.int v :: st)) (mkF m pc' ls' st) := by
  subst hp
  exact OG.of fun s' T locs cl sl X target k => XS.istoreN X.here C.1 rfl (C.d hd) rfl hl k
theorem OG.istore (C : OC p s m meth c Z own nm bytes ml ret) {k : Nat} {v : Int32} (hd : decode bytes pc = .ok (.istore k, 2)) (hl : storeLocals ls k (.int v) = some ls') (hp : pc + 2 = pc') : OG p l e R s m args below meth c n0 h (mkF m pc ls (.int v :: st)) (mkF m pc' ls' st) := by
  subst hp
  exact OG.of fun s' T locs cl sl X target k => XS.istore X.here C.1 rfl (C.d hd) rfl hl k
theorem OG.lstoreN (C : OC p s m meth c Z own nm bytes ml ret) {k : Fin 4} {v : Int64} (hd : decode bytes pc = .ok (.lstore_n k, 1)) (hl : storeLocals ls k.val (.long v) = some ls') (hp : pc + 1 = pc') : OG p l e R s m args below meth c n0 h (mkF m pc ls (.long v :: st)) (mkF m pc' ls' st) := by
  subst hp
  exact OG.of fun s' T locs cl sl X target k => XS.lstoreN X.here C.1 rfl (C.d hd) rfl hl k
theorem OG.lstore (C : OC p s m meth c Z own nm bytes ml ret) {k : Nat} {v : Int64} (hd : decode bytes pc = .ok (.lstore k, 2)) (hl : storeLocals ls k (.long v) = some ls') (hp : pc + 2 = pc') : OG p l e R s m args below meth c n0 h (mkF m pc ls (.long v :: st)) (mkF m pc' ls' st) := by
  subst hp
  exact OG.of fun s' T locs cl sl X target k => XS.lstore X.here C.1 rfl (C.d hd) rfl hl k
theorem OG.astoreN (C : OC p s m meth c Z own nm bytes ml ret) {k : Fin 4} {v : Value} (hd : decode bytes pc = .ok (.astore_n k, 1)) (hv : v.isRef = true) (hl : storeLocals ls k.val v = some ls') (hp : pc + 1 = pc') : OG p l e R s m args below meth c n0 h (mkF m pc ls (v :: st)) (mkF m pc' ls' st) := by
  subst hp
  exact OG.of fun s' T locs cl sl X target k => XS.astoreN X.here C.1 rfl (C.d hd) rfl hv hl k
theorem OG.astore (C : OC p s m meth c Z own nm bytes ml ret) {k : Nat} {v : Value} (hd : decode bytes pc = .ok (.astore k, 2)) (hv : v.isRef = true) (hl : storeLocals ls k v = some ls') (hp : pc + 2 = pc') : OG p l e R s m args below meth c n0 h (mkF m pc ls (v :: st)) (mkF m pc' ls' st) := by
  subst hp
  exact OG.of fun s' T locs cl sl X target k => XS.astore X.here C.1 rfl (C.d hd) rfl hv hl k
theorem OG.iconst (C : OC p s m meth c Z own nm bytes ml ret) {i : Int} {z : Int32} (hd : decode bytes pc = .ok (.iconst i, 1)) (hz : Int32.ofInt i = z) (hp : pc + 1 = pc') : OG p l e R s m args below meth c n0 h (mkF m pc ls st) (mkF m pc' ls (.int z :: st)) := by
  subst hp hz
  exact OG.of fun s' T locs cl sl X target k => XS.iconst X.here C.1 rfl (C.d hd)  k
theorem OG.bipush (C : OC p s m meth c Z own nm bytes ml ret) {i : Int} {z : Int32} (hd : decode bytes pc = .ok (.bipush i, 2)) (hz : (Int8.ofInt i).toInt32 = z) (hp : pc + 2 = pc') : OG p l e R s m args below meth c n0 h (mkF m pc ls st) (mkF m pc' ls (.int z :: st)) := by
  subst hp hz
  exact OG.of fun s' T locs cl sl X target k => XS.bipush X.here C.1 rfl (C.d hd)  k
theorem OG.sipush (C : OC p s m meth c Z own nm bytes ml ret) {i : Int} {z : Int32} (hd : decode bytes pc = .ok (.sipush i, 3)) (hz : (Int16.ofInt i).toInt32 = z) (hp : pc + 3 = pc') : OG p l e R s m args below meth c n0 h (mkF m pc ls st) (mkF m pc' ls (.int z :: st)) := by
  subst hp hz
  exact OG.of fun s' T locs cl sl X target k => XS.sipush X.here C.1 rfl (C.d hd)  k
theorem OG.lconst (C : OC p s m meth c Z own nm bytes ml ret) {i : Fin 2} {z : Int64} (hd : decode bytes pc = .ok (.lconst i, 1)) (hz : Int64.ofNat i = z) (hp : pc + 1 = pc') : OG p l e R s m args below meth c n0 h (mkF m pc ls st) (mkF m pc' ls (.long z :: st)) := by
  subst hp hz
  exact OG.of fun s' T locs cl sl X target k => XS.lconst X.here C.1 rfl (C.d hd)  k
theorem OG.aconst_null (C : OC p s m meth c Z own nm bytes ml ret)  (hd : decode bytes pc = .ok (.aconst_null, 1))  (hp : pc + 1 = pc') : OG p l e R s m args below meth c n0 h (mkF m pc ls st) (mkF m pc' ls (.null :: st)) := by
  subst hp
  exact OG.of fun s' T locs cl sl X target k => XS.aconstNull X.here C.1 rfl (C.d hd)  k
theorem OG.iadd (C : OC p s m meth c Z own nm bytes ml ret) {x y : Int32} (hd : decode bytes pc = .ok (.iadd, 1))  (hp : pc + 1 = pc') : OG p l e R s m args below meth c n0 h (mkF m pc ls (.int y :: .int x :: st)) (mkF m pc' ls (.int (x + y) :: st)) := by
  subst hp
  exact OG.of fun s' T locs cl sl X target k => XS.iadd X.here C.1 rfl (C.d hd) rfl k
theorem OG.ladd (C : OC p s m meth c Z own nm bytes ml ret) {x y : Int64} (hd : decode bytes pc = .ok (.ladd, 1))  (hp : pc + 1 = pc') : OG p l e R s m args below meth c n0 h (mkF m pc ls (.long y :: .long x :: st)) (mkF m pc' ls (.long (x + y) :: st)) := by
  subst hp
  exact OG.of fun s' T locs cl sl X target k => XS.ladd X.here C.1 rfl (C.d hd) rfl k
theorem OG.isub (C : OC p s m meth c Z own nm bytes ml ret) {x y : Int32} (hd : decode bytes pc = .ok (.isub, 1))  (hp : pc + 1 = pc') : OG p l e R s m args below meth c n0 h (mkF m pc ls (.int y :: .int x :: st)) (mkF m pc' ls (.int (x - y) :: st)) := by
  subst hp
  exact OG.of fun s' T locs cl sl X target k => XS.isub X.here C.1 rfl (C.d hd) rfl k
theorem OG.lsub (C : OC p s m meth c Z own nm bytes ml ret) {x y : Int64} (hd : decode bytes pc = .ok (.lsub, 1))  (hp : pc + 1 = pc') : OG p l e R s m args below meth c n0 h (mkF m pc ls (.long y :: .long x :: st)) (mkF m pc' ls (.long (x - y) :: st)) := by
  subst hp
  exact OG.of fun s' T locs cl sl X target k => XS.lsub X.here C.1 rfl (C.d hd) rfl k
theorem OG.imul (C : OC p s m meth c Z own nm bytes ml ret) {x y : Int32} (hd : decode bytes pc = .ok (.imul, 1))  (hp : pc + 1 = pc') : OG p l e R s m args below meth c n0 h (mkF m pc ls (.int y :: .int x :: st)) (mkF m pc' ls (.int (x * y) :: st)) := by
  subst hp
  exact OG.of fun s' T locs cl sl X target k => XS.imul X.here C.1 rfl (C.d hd) rfl k
theorem OG.lmul (C : OC p s m meth c Z own nm bytes ml ret) {x y : Int64} (hd : decode bytes pc = .ok (.lmul, 1))  (hp : pc + 1 = pc') : OG p l e R s m args below meth c n0 h (mkF m pc ls (.long y :: .long x :: st)) (mkF m pc' ls (.long (x * y) :: st)) := by
  subst hp
  exact OG.of fun s' T locs cl sl X target k => XS.lmul X.here C.1 rfl (C.d hd) rfl k
theorem OG.iand (C : OC p s m meth c Z own nm bytes ml ret) {x y : Int32} (hd : decode bytes pc = .ok (.iand, 1))  (hp : pc + 1 = pc') : OG p l e R s m args below meth c n0 h (mkF m pc ls (.int y :: .int x :: st)) (mkF m pc' ls (.int (x &&& y) :: st)) := by
  subst hp
  exact OG.of fun s' T locs cl sl X target k => XS.iand X.here C.1 rfl (C.d hd) rfl k
theorem OG.land (C : OC p s m meth c Z own nm bytes ml ret) {x y : Int64} (hd : decode bytes pc = .ok (.land, 1))  (hp : pc + 1 = pc') : OG p l e R s m args below meth c n0 h (mkF m pc ls (.long y :: .long x :: st)) (mkF m pc' ls (.long (x &&& y) :: st)) := by
  subst hp
  exact OG.of fun s' T locs cl sl X target k => XS.land X.here C.1 rfl (C.d hd) rfl k
theorem OG.ior (C : OC p s m meth c Z own nm bytes ml ret) {x y : Int32} (hd : decode bytes pc = .ok (.ior, 1))  (hp : pc + 1 = pc') : OG p l e R s m args below meth c n0 h (mkF m pc ls (.int y :: .int x :: st)) (mkF m pc' ls (.int (x ||| y) :: st)) := by
  subst hp
  exact OG.of fun s' T locs cl sl X target k => XS.ior X.here C.1 rfl (C.d hd) rfl k
theorem OG.lor (C : OC p s m meth c Z own nm bytes ml ret) {x y : Int64} (hd : decode bytes pc = .ok (.lor, 1))  (hp : pc + 1 = pc') : OG p l e R s m args below meth c n0 h (mkF m pc ls (.long y :: .long x :: st)) (mkF m pc' ls (.long (x ||| y) :: st)) := by
  subst hp
  exact OG.of fun s' T locs cl sl X target k => XS.lor X.here C.1 rfl (C.d hd) rfl k
theorem OG.ixor (C : OC p s m meth c Z own nm bytes ml ret) {x y : Int32} (hd : decode bytes pc = .ok (.ixor, 1))  (hp : pc + 1 = pc') : OG p l e R s m args below meth c n0 h (mkF m pc ls (.int y :: .int x :: st)) (mkF m pc' ls (.int (x ^^^ y) :: st)) := by
  subst hp
  exact OG.of fun s' T locs cl sl X target k => XS.ixor X.here C.1 rfl (C.d hd) rfl k
theorem OG.lxor (C : OC p s m meth c Z own nm bytes ml ret) {x y : Int64} (hd : decode bytes pc = .ok (.lxor, 1))  (hp : pc + 1 = pc') : OG p l e R s m args below meth c n0 h (mkF m pc ls (.long y :: .long x :: st)) (mkF m pc' ls (.long (x ^^^ y) :: st)) := by
  subst hp
  exact OG.of fun s' T locs cl sl X target k => XS.lxor X.here C.1 rfl (C.d hd) rfl k
theorem OG.idiv (C : OC p s m meth c Z own nm bytes ml ret) {x y : Int32} (hd : decode bytes pc = .ok (.idiv, 1)) (hy : y ≠ 0) (hp : pc + 1 = pc') : OG p l e R s m args below meth c n0 h (mkF m pc ls (.int y :: .int x :: st)) (mkF m pc' ls (.int (x / y) :: st)) := by
  subst hp
  exact OG.of fun s' T locs cl sl X target k => XS.idiv X.here C.1 rfl (C.d hd) rfl hy k
theorem OG.ldiv (C : OC p s m meth c Z own nm bytes ml ret) {x y : Int64} (hd : decode bytes pc = .ok (.ldiv, 1)) (hy : y ≠ 0) (hp : pc + 1 = pc') : OG p l e R s m args below meth c n0 h (mkF m pc ls (.long y :: .long x :: st)) (mkF m pc' ls (.long (x / y) :: st)) := by
  subst hp
  exact OG.of fun s' T locs cl sl X target k => XS.ldiv X.here C.1 rfl (C.d hd) rfl hy k
theorem OG.ineg (C : OC p s m meth c Z own nm bytes ml ret) {x : Int32} (hd : decode bytes pc = .ok (.ineg, 1))  (hp : pc + 1 = pc') : OG p l e R s m args below meth c n0 h (mkF m pc ls (.int x :: st)) (mkF m pc' ls (.int (-x) :: st)) := by
  subst hp
  exact OG.of fun s' T locs cl sl X target k => XS.ineg X.here C.1 rfl (C.d hd) rfl k
theorem OG.lneg (C : OC p s m meth c Z own nm bytes ml ret) {x : Int64} (hd : decode bytes pc = .ok (.lneg, 1))  (hp : pc + 1 = pc') : OG p l e R s m args below meth c n0 h (mkF m pc ls (.long x :: st)) (mkF m pc' ls (.long (-x) :: st)) := by
  subst hp
  exact OG.of fun s' T locs cl sl X target k => XS.lneg X.here C.1 rfl (C.d hd) rfl k
theorem OG.i2l (C : OC p s m meth c Z own nm bytes ml ret) {x : Int32} (hd : decode bytes pc = .ok (.i2l, 1))  (hp : pc + 1 = pc') : OG p l e R s m args below meth c n0 h (mkF m pc ls (.int x :: st)) (mkF m pc' ls (.long x.toInt64 :: st)) := by
  subst hp
  exact OG.of fun s' T locs cl sl X target k => XS.i2l X.here C.1 rfl (C.d hd) rfl k
theorem OG.l2i (C : OC p s m meth c Z own nm bytes ml ret) {x : Int64} (hd : decode bytes pc = .ok (.l2i, 1))  (hp : pc + 1 = pc') : OG p l e R s m args below meth c n0 h (mkF m pc ls (.long x :: st)) (mkF m pc' ls (.int x.toInt32 :: st)) := by
  subst hp
  exact OG.of fun s' T locs cl sl X target k => XS.l2i X.here C.1 rfl (C.d hd) rfl k
theorem OG.i2b (C : OC p s m meth c Z own nm bytes ml ret) {x : Int32} (hd : decode bytes pc = .ok (.i2b, 1))  (hp : pc + 1 = pc') : OG p l e R s m args below meth c n0 h (mkF m pc ls (.int x :: st)) (mkF m pc' ls (.int x.toInt8.toInt32 :: st)) := by
  subst hp
  exact OG.of fun s' T locs cl sl X target k => XS.i2b X.here C.1 rfl (C.d hd) rfl k
theorem OG.i2c (C : OC p s m meth c Z own nm bytes ml ret) {x : Int32} (hd : decode bytes pc = .ok (.i2c, 1))  (hp : pc + 1 = pc') : OG p l e R s m args below meth c n0 h (mkF m pc ls (.int x :: st)) (mkF m pc' ls (.int x.toUInt32.toUInt16.toUInt32.toInt32 :: st)) := by
  subst hp
  exact OG.of fun s' T locs cl sl X target k => XS.i2c X.here C.1 rfl (C.d hd) rfl k
theorem OG.i2s (C : OC p s m meth c Z own nm bytes ml ret) {x : Int32} (hd : decode bytes pc = .ok (.i2s, 1))  (hp : pc + 1 = pc') : OG p l e R s m args below meth c n0 h (mkF m pc ls (.int x :: st)) (mkF m pc' ls (.int x.toInt16.toInt32 :: st)) := by
  subst hp
  exact OG.of fun s' T locs cl sl X target k => XS.i2s X.here C.1 rfl (C.d hd) rfl k
theorem OG.ishl (C : OC p s m meth c Z own nm bytes ml ret) {x y : Int32} (hd : decode bytes pc = .ok (.ishl, 1))  (hp : pc + 1 = pc') : OG p l e R s m args below meth c n0 h (mkF m pc ls (.int y :: .int x :: st)) (mkF m pc' ls (.int (x <<< (y &&& 31)) :: st)) := by
  subst hp
  exact OG.of fun s' T locs cl sl X target k => XS.ishl X.here C.1 rfl (C.d hd) rfl k
theorem OG.ishr (C : OC p s m meth c Z own nm bytes ml ret) {x y : Int32} (hd : decode bytes pc = .ok (.ishr, 1))  (hp : pc + 1 = pc') : OG p l e R s m args below meth c n0 h (mkF m pc ls (.int y :: .int x :: st)) (mkF m pc' ls (.int (x >>> (y &&& 31)) :: st)) := by
  subst hp
  exact OG.of fun s' T locs cl sl X target k => XS.ishr X.here C.1 rfl (C.d hd) rfl k
theorem OG.iushr (C : OC p s m meth c Z own nm bytes ml ret) {x y : Int32} (hd : decode bytes pc = .ok (.iushr, 1))  (hp : pc + 1 = pc') : OG p l e R s m args below meth c n0 h (mkF m pc ls (.int y :: .int x :: st)) (mkF m pc' ls (.int (x.toUInt32 >>> (y &&& 31).toUInt32).toInt32 :: st)) := by
  subst hp
  exact OG.of fun s' T locs cl sl X target k => XS.iushr X.here C.1 rfl (C.d hd) rfl k
theorem OG.lshl (C : OC p s m meth c Z own nm bytes ml ret) {x : Int64} {y : Int32} (hd : decode bytes pc = .ok (.lshl, 1))  (hp : pc + 1 = pc') : OG p l e R s m args below meth c n0 h (mkF m pc ls (.int y :: .long x :: st)) (mkF m pc' ls (.long (x <<< (y &&& 0x3f).toInt64) :: st)) := by
  subst hp
  exact OG.of fun s' T locs cl sl X target k => XS.lshl X.here C.1 rfl (C.d hd) rfl k
theorem OG.lshr (C : OC p s m meth c Z own nm bytes ml ret) {x : Int64} {y : Int32} (hd : decode bytes pc = .ok (.lshr, 1))  (hp : pc + 1 = pc') : OG p l e R s m args below meth c n0 h (mkF m pc ls (.int y :: .long x :: st)) (mkF m pc' ls (.long (x >>> (y &&& 0x3f).toInt64) :: st)) := by
  subst hp
  exact OG.of fun s' T locs cl sl X target k => XS.lshr X.here C.1 rfl (C.d hd) rfl k
theorem OG.lushr (C : OC p s m meth c Z own nm bytes ml ret) {x : Int64} {y : Int32} (hd : decode bytes pc = .ok (.lushr, 1))  (hp : pc + 1 = pc') : OG p l e R s m args below meth c n0 h (mkF m pc ls (.int y :: .long x :: st)) (mkF m pc' ls (.long (x.toUInt64 >>> (y &&& 0x3f).toInt64.toUInt64).toInt64 :: st)) := by
  subst hp
  exact OG.of fun s' T locs cl sl X target k => XS.lushr X.here C.1 rfl (C.d hd) rfl k
theorem OG.lcmp (C : OC p s m meth c Z own nm bytes ml ret) {x y : Int64} (hd : decode bytes pc = .ok (.lcmp, 1))  (hp : pc + 1 = pc') : OG p l e R s m args below meth c n0 h (mkF m pc ls (.long y :: .long x :: st)) (mkF m pc' ls (.int (lcmpW x y) :: st)) := by
  subst hp
  exact OG.of fun s' T locs cl sl X target k => XS.lcmp X.here C.1 rfl (C.d hd) rfl k
theorem OG.dup (C : OC p s m meth c Z own nm bytes ml ret) {x : Value} (hd : decode bytes pc = .ok (.dup, 1)) (hc : x.category = 1) (hp : pc + 1 = pc') : OG p l e R s m args below meth c n0 h (mkF m pc ls (x :: st)) (mkF m pc' ls (x :: x :: st)) := by
  subst hp
  exact OG.of fun s' T locs cl sl X target k => XS.dup X.here C.1 rfl (C.d hd) rfl hc k
theorem OG.pop (C : OC p s m meth c Z own nm bytes ml ret) {x : Value} (hd : decode bytes pc = .ok (.pop, 1)) (hc : x.category = 1) (hp : pc + 1 = pc') : OG p l e R s m args below meth c n0 h (mkF m pc ls (x :: st)) (mkF m pc' ls st) := by
  subst hp
  exact OG.of fun s' T locs cl sl X target k => XS.pop X.here C.1 rfl (C.d hd) rfl hc k
theorem OG.iinc (C : OC p s m meth c Z own nm bytes ml ret) {k : Nat} {i : Int} {x z : Int32} (hd : decode bytes pc = .ok (.iinc k i, 3)) (hz : Int32.ofInt i = z) (hl : ls[k]? = some (.val (.int x))) (hl' : storeLocals ls k (.int (x + z)) = some ls') (hp : pc + 3 = pc') : OG p l e R s m args below meth c n0 h (mkF m pc ls st) (mkF m pc' ls' st) := by
  subst hp hz
  exact OG.of fun s' T locs cl sl X target k => XS.iinc X.here C.1 rfl (C.d hd) hl hl' k
theorem OG.goto (C : OC p s m meth c Z own nm bytes ml ret) {o : Int} (hd : decode bytes pc = .ok (.goto o, 3)) (ho : 0 ≤ (pc : Int) + o) (hp : ((pc : Int) + o).toNat = pc') : OG p l e R s m args below meth c n0 h (mkF m pc ls st) (mkF m pc' ls st) := OG.of fun s' T locs cl sl X target k => XS.goto X.here C.1 rfl (pc0 := pc) rfl (C.d hd) ho hp k
theorem OG.ifYes (C : OC p s m meth c Z own nm bytes ml ret) {o : Int} {cd : ClassFile.Cond} {x : Int32} (hd : decode bytes pc = .ok (.ifCond cd o, 3)) (hc : ifCond.holds cd x = true) (ho : 0 ≤ (pc : Int) + o) (hp : ((pc : Int) + o).toNat = pc') : OG p l e R s m args below meth c n0 h (mkF m pc ls (.int x :: st)) (mkF m pc' ls st) := OG.of fun s' T locs cl sl X target k => XS.ifYes X.here C.1 rfl (pc0 := pc) rfl (C.d hd) rfl hc ho hp k
theorem OG.ifNo (C : OC p s m meth c Z own nm bytes ml ret) {o : Int} {cd : ClassFile.Cond} {x : Int32} (hd : decode bytes pc = .ok (.ifCond cd o, 3)) (hc : ifCond.holds cd x = false) (hp : pc + 3 = pc') : OG p l e R s m args below meth c n0 h (mkF m pc ls (.int x :: st)) (mkF m pc' ls st) := by
  subst hp
  exact OG.of fun s' T locs cl sl X target k => XS.ifNo X.here C.1 rfl (C.d hd) rfl hc k
theorem OG.icmpYes (C : OC p s m meth c Z own nm bytes ml ret) {o : Int} {cd : ClassFile.Cond} {x y : Int32} (hd : decode bytes pc = .ok (.if_icmp cd o, 3)) (hc : if_icmp.holds cd x y = true) (ho : 0 ≤ (pc : Int) + o) (hp : ((pc : Int) + o).toNat = pc') : OG p l e R s m args below meth c n0 h (mkF m pc ls (.int y :: .int x :: st)) (mkF m pc' ls st) := OG.of fun s' T locs cl sl X target k => XS.icmpYes X.here C.1 rfl (pc0 := pc) rfl (C.d hd) rfl hc ho hp k
theorem OG.icmpNo (C : OC p s m meth c Z own nm bytes ml ret) {o : Int} {cd : ClassFile.Cond} {x y : Int32} (hd : decode bytes pc = .ok (.if_icmp cd o, 3)) (hc : if_icmp.holds cd x y = false) (hp : pc + 3 = pc') : OG p l e R s m args below meth c n0 h (mkF m pc ls (.int y :: .int x :: st)) (mkF m pc' ls st) := by
  subst hp
  exact OG.of fun s' T locs cl sl X target k => XS.icmpNo X.here C.1 rfl (C.d hd) rfl hc k
theorem OG.ifnullYes (C : OC p s m meth c Z own nm bytes ml ret) {o : Int}  (hd : decode bytes pc = .ok (.ifnull o, 3))  (ho : 0 ≤ (pc : Int) + o) (hp : ((pc : Int) + o).toNat = pc') : OG p l e R s m args below meth c n0 h (mkF m pc ls (.null :: st)) (mkF m pc' ls st) := OG.of fun s' T locs cl sl X target k => XS.ifnullYes X.here C.1 rfl (pc0 := pc) rfl (C.d hd) rfl ho hp k
theorem OG.ifnullNo (C : OC p s m meth c Z own nm bytes ml ret) {o : Int} {b : Addr} (hd : decode bytes pc = .ok (.ifnull o, 3))  (hp : pc + 3 = pc') : OG p l e R s m args below meth c n0 h (mkF m pc ls (.ref b :: st)) (mkF m pc' ls st) := by
  subst hp
  exact OG.of fun s' T locs cl sl X target k => XS.ifnullNo X.here C.1 rfl (C.d hd) rfl k
theorem OG.ifnonnullYes (C : OC p s m meth c Z own nm bytes ml ret) {o : Int} {b : Addr} (hd : decode bytes pc = .ok (.ifnonnull o, 3))  (ho : 0 ≤ (pc : Int) + o) (hp : ((pc : Int) + o).toNat = pc') : OG p l e R s m args below meth c n0 h (mkF m pc ls (.ref b :: st)) (mkF m pc' ls st) := OG.of fun s' T locs cl sl X target k => XS.ifnonnullYes X.here C.1 rfl (pc0 := pc) rfl (C.d hd) rfl ho hp k
theorem OG.ifnonnullNo (C : OC p s m meth c Z own nm bytes ml ret) {o : Int}  (hd : decode bytes pc = .ok (.ifnonnull o, 3))  (hp : pc + 3 = pc') : OG p l e R s m args below meth c n0 h (mkF m pc ls (.null :: st)) (mkF m pc' ls st) := by
  subst hp
  exact OG.of fun s' T locs cl sl X target k => XS.ifnonnullNo X.here C.1 rfl (C.d hd) rfl k
theorem OG.irem (C : OC p s m meth c Z own nm bytes ml ret) {x y : Int32} (hd : decode bytes pc = .ok (.irem, 1)) (hy : y ≠ 0) (hp : pc + 1 = pc') : OG p l e R s m args below meth c n0 h (mkF m pc ls (.int y :: .int x :: st)) (mkF m pc' ls (.int (x % y) :: st)) := by
  subst hp
  refine OG.of fun s' T locs cl sl X target k => XS.irem X.here C.1 rfl (C.d hd) rfl hy ?_
  rw [irem_eq_mod x y]; exact k
theorem OG.lrem (C : OC p s m meth c Z own nm bytes ml ret) {x y : Int64} (hd : decode bytes pc = .ok (.lrem, 1)) (hy : y ≠ 0) (hp : pc + 1 = pc') : OG p l e R s m args below meth c n0 h (mkF m pc ls (.long y :: .long x :: st)) (mkF m pc' ls (.long (x % y) :: st)) := by
  subst hp
  refine OG.of fun s' T locs cl sl X target k => XS.lrem X.here C.1 rfl (C.d hd) rfl hy ?_
  rw [lrem_mod x y]; exact k
theorem OG.acmp (C : OC p s m meth c Z own nm bytes ml ret) {o : Int} {cd : ACond} {x y : Value} {same : Bool} (hd : decode bytes pc = .ok (.if_acmp cd o, 3)) (h1 : x.isRef = true) (h2 : y.isRef = true) (hq : decide (x = y) = same) (ho : 0 ≤ (pc : Int) + o) (hp : pc' = if acV cd same = true then ((pc : Int) + o).toNat else pc + 3) :
    OG p l e R s m args below meth c n0 h (mkF m pc ls (y :: x :: st)) (mkF m pc' ls st) :=
  OG.of fun s' T locs cl sl X target k => RoadKit.acmp X C.1 rfl h1 h2 (pc0 := pc) rfl (C.d hd) rfl hq ho hp k
theorem OG.ldcI (C : OC p s m meth c Z own nm bytes ml ret) {i : Nat} {v : Int32} (w : (Cond.constant own i v).before a0 Z = true) (hd : decode bytes pc = .ok (.ldc i, 2)) (hp : pc + 2 = pc') : OG p l e R s m args below meth c n0 h (mkF m pc ls st) (mkF m pc' ls (.int v :: st)) := by
  subst hp
  rintro T locs cl sl ⟨X, N0, e0, bc, bs⟩
  exact ⟨T, locs, ⟨X, N0, e0, bc, bs⟩, fun target k => X.ldcInt C.1 C.2.2.2.1 (mv C.2.2.1 w) (g := mkF m pc ls st) rfl (C.d hd) target k⟩
theorem OG.ldcL (C : OC p s m meth c Z own nm bytes ml ret) {i : Nat} {v : Int64} (w : (Cond.constantLong own i v).before a0 Z = true) (hd : decode bytes pc = .ok (.ldc2_w i, 3)) (hp : pc + 3 = pc') : OG p l e R s m args below meth c n0 h (mkF m pc ls st) (mkF m pc' ls (.long v :: st)) := by
  subst hp
  rintro T locs cl sl ⟨X, N0, e0, bc, bs⟩
  exact ⟨T, locs, ⟨X, N0, e0, bc, bs⟩, fun target k => X.ldc2Long C.1 C.2.2.2.1 (mv C.2.2.1 w) (g := mkF m pc ls st) rfl (C.d hd) target k⟩
theorem OG.ldcS (C : OC p s m meth c Z own nm bytes ml ret) {i : Nat} {t : String} {a : Addr} (w : (Cond.stringRef own i t).before a0 Z = true) (F : Lit Z own i a) (hd : decode bytes pc = .ok (.ldc i, 2)) (hp : pc + 2 = pc') : OG p l e R s m args below meth c n0 h (mkF m pc ls st) (mkF m pc' ls (.ref a :: st)) := by
  subst hp
  rintro T locs cl sl ⟨X, N0, e0, bc, bs⟩
  exact ⟨T, locs, ⟨X, N0, e0, bc, bs⟩, fun target k => ldcR X C.1 C.2.2.1 C.2.2.2.1 w F (g := mkF m pc ls st) rfl (C.d hd) target k⟩
theorem OG.getF (C : OC p s m meth c Z own nm bytes ml ret) {R0 O n d host : String} {i : Nat} {a : Addr} {v : Value} (w : (Cond.fieldLink own i R0 n d).before a0 Z = true ∨ (Cond.fieldLinkNest own i R0 n d host).before a0 Z = true) (via : Via Z R0 O n d) (F : Fld Z h a O n d v) (hd : decode bytes pc = .ok (.getfield i, 3)) (hp : pc + 3 = pc') :
    OG p l e R s m args below meth c n0 h (mkF m pc ls (.ref a :: st)) (mkF m pc' ls (v :: st)) := by
  subst hp
  rintro T locs cl sl ⟨X, N0, e0, bc, bs⟩
  obtain ⟨T', X', e', k⟩ := RoadKit.getF X C.1 C.2.2.1 C.2.2.2.1 w via e0 F (g := mkF m pc ls (.ref a :: st)) rfl rfl (C.d hd)
  exact ⟨T', locs, ⟨X', N0, e', bc, bs⟩, k⟩
theorem OG.getS (C : OC p s m meth c Z own nm bytes ml ret) {R0 O n d host : String} {i : Nat} {v : Value} (w : (Cond.fieldLink own i R0 n d).before a0 Z = true ∨ (Cond.fieldLinkNest own i R0 n d host).before a0 Z = true) (via : Via Z R0 O n d) (F : Sta Z h O n d v) (hd : decode bytes pc = .ok (.getstatic i, 3)) (hp : pc + 3 = pc') :
    OG p l e R s m args below meth c n0 h (mkF m pc ls st) (mkF m pc' ls (v :: st)) := by
  subst hp
  rintro T locs cl sl ⟨X, N0, e0, bc, bs⟩
  obtain ⟨T', X', e', k⟩ := getS2 X C.1 C.2.2.1 C.2.2.2.1 w via e0 F (g := mkF m pc ls st) rfl (C.d hd)
  exact ⟨T', locs, ⟨X', N0, e', bc, bs⟩, k⟩
/-- an array and what stands in it -/
def OA (Z : State) (h : Heap) (a : Addr) (ty : FieldType) (vs : List Value) : Prop := ∃ c : Cell, Arr Z h a c ty ∧ c.slots.toList = vs
theorem OA.lt {a : Addr} {ty : FieldType} {vs : List Value} (A : OA Z h a ty vs) : a < h.size := by obtain ⟨c, A, -⟩ := A; exact A.lt
theorem OA.ext {h' : Heap} {a : Addr} {ty : FieldType} {vs : List Value} (A : OA Z h a ty vs) (E : Ext h h') : OA Z h' a ty vs := by obtain ⟨c, A, r⟩ := A; exact ⟨c, A.ext E, r⟩
theorem OA.other {h' : Heap} {a b : Addr} {k : Nat} {v : Value} {ty : FieldType} {vs : List Value} (A : OA Z h a ty vs) (W : Wr h h' b k v) (q : a ≠ b) : OA Z h' a ty vs := by obtain ⟨c, A, r⟩ := A; exact ⟨c, A.other W q, r⟩
theorem OA.same {h' : Heap} {a : Addr} {k : Nat} {v : Value} {ty : FieldType} {vs : List Value} (A : OA Z h a ty vs) (W : Wr h h' a k v) : OA Z h' a ty (vs.set k v) := by
  obtain ⟨c, A, r⟩ := A
  exact ⟨_, A.same W, by subst r; simp [Cell.setSlot]⟩
theorem OA.keep {h' : Heap} {a : Addr} {ws : List Addr} {ty : FieldType} {vs : List Value} (A : OA Z h a ty vs) (W : Keep h h' ws) (q : a ∉ ws) : OA Z h' a ty vs := by obtain ⟨c, A, r⟩ := A; exact ⟨c, ⟨W.2.1 a c A.1 q, A.2⟩, r⟩
theorem OA.inb {c : Cell} {vs : List Value} {j : Int32} (r : c.slots.toList = vs) (q : 0 ≤ j.toInt ∧ j.toInt < vs.length) : ¬ (j < 0 ∨ c.slots.size ≤ j.toNatClampNeg) := by
  have : c.slots.size = vs.length := by rw [← r]; simp
  rw [Int32.lt_iff_toInt_lt, Int32.toNatClampNeg]
  simp only [Int32.reduceToInt]; omega
theorem own_ib {j : Int32} {vs : List Value} {n : Nat} (q : vs.length = n) (r : 0 ≤ j.toInt ∧ j.toInt < (n : Int)) : 0 ≤ j.toInt ∧ j.toInt < vs.length := by rw [q]; exact r
theorem OA.new {k : ClassId} {a : Addr} {ty : FieldType} {z : Int32} {n : Nat} (A : Arr Z h a (newA k ty z) ty) (q : z.toNatClampNeg = n) : OA Z h a ty (List.replicate n (defaultValue ty)) := ⟨_, A, by subst q; simp [newA]⟩
theorem OG.laload (C : OC p s m meth c Z own nm bytes ml ret) {a : Addr} {j : Int32} {vs : List Value} {v : Value} (F : OA Z h a .long vs) (q : 0 ≤ j.toInt ∧ j.toInt < vs.length) (hv : vs[j.toNatClampNeg]? = some v) (hd : decode bytes pc = .ok (.laload, 1)) (hp : pc + 1 = pc') :
    OG p l e R s m args below meth c n0 h (mkF m pc ls (.int j :: .ref a :: st)) (mkF m pc' ls (v :: st)) := by
  subst hp
  rintro T locs cl sl ⟨X, N0, e0, bc, bs⟩
  obtain ⟨cc, A, r⟩ := F
  exact ⟨T, locs, ⟨X, N0, e0, bc, bs⟩, X.laload C.1 (by rw [e0]; exact A.1) (State.isArrayOf_alike C.2.2.1.alike A.2.1) A.2.2 (OA.inb r q) (by rw [← r] at hv; simpa using hv) (g := mkF m pc ls (.int j :: .ref a :: st)) rfl rfl (C.d hd)⟩
theorem OG.iaload (C : OC p s m meth c Z own nm bytes ml ret) {a : Addr} {j : Int32} {vs : List Value} {v : Value} (F : OA Z h a .int vs) (q : 0 ≤ j.toInt ∧ j.toInt < vs.length) (hv : vs[j.toNatClampNeg]? = some v) (hd : decode bytes pc = .ok (.iaload, 1)) (hp : pc + 1 = pc') :
    OG p l e R s m args below meth c n0 h (mkF m pc ls (.int j :: .ref a :: st)) (mkF m pc' ls (v :: st)) := by
  subst hp
  rintro T locs cl sl ⟨X, N0, e0, bc, bs⟩
  obtain ⟨cc, A, r⟩ := F
  exact ⟨T, locs, ⟨X, N0, e0, bc, bs⟩, X.iaload C.1 (by rw [e0]; exact A.1) (State.isArrayOf_alike C.2.2.1.alike A.2.1) A.2.2 (OA.inb r q) (by rw [← r] at hv; simpa using hv) (g := mkF m pc ls (.int j :: .ref a :: st)) rfl rfl (C.d hd)⟩
theorem OG.caload (C : OC p s m meth c Z own nm bytes ml ret) {a : Addr} {j : Int32} {vs : List Value} {v : Value} (F : OA Z h a .char vs) (q : 0 ≤ j.toInt ∧ j.toInt < vs.length) (hv : vs[j.toNatClampNeg]? = some v) (hd : decode bytes pc = .ok (.caload, 1)) (hp : pc + 1 = pc') :
    OG p l e R s m args below meth c n0 h (mkF m pc ls (.int j :: .ref a :: st)) (mkF m pc' ls (v :: st)) := by
  subst hp
  rintro T locs cl sl ⟨X, N0, e0, bc, bs⟩
  obtain ⟨cc, A, r⟩ := F
  exact ⟨T, locs, ⟨X, N0, e0, bc, bs⟩, X.caload C.1 (by rw [e0]; exact A.1) (State.isArrayOf_alike C.2.2.1.alike A.2.1) A.2.2 (OA.inb r q) (by rw [← r] at hv; simpa using hv) (g := mkF m pc ls (.int j :: .ref a :: st)) rfl rfl (C.d hd)⟩
theorem OG.baload (C : OC p s m meth c Z own nm bytes ml ret) {a : Addr} {j : Int32} {vs : List Value} {v : Value} (F : OA Z h a .byte vs) (q : 0 ≤ j.toInt ∧ j.toInt < vs.length) (hv : vs[j.toNatClampNeg]? = some v) (hd : decode bytes pc = .ok (.baload, 1)) (hp : pc + 1 = pc') :
    OG p l e R s m args below meth c n0 h (mkF m pc ls (.int j :: .ref a :: st)) (mkF m pc' ls (v :: st)) := by
  subst hp
  rintro T locs cl sl ⟨X, N0, e0, bc, bs⟩
  obtain ⟨cc, A, r⟩ := F
  exact ⟨T, locs, ⟨X, N0, e0, bc, bs⟩, X.baloadBytes C.1 (by rw [e0]; exact A.1) (State.isArrayOf_alike C.2.2.1.alike A.2.1) A.2.2 (OA.inb r q) (by rw [← r] at hv; simpa using hv) (g := mkF m pc ls (.int j :: .ref a :: st)) rfl rfl (C.d hd)⟩
theorem OG.aaload (C : OC p s m meth c Z own nm bytes ml ret) {a : Addr} {j : Int32} {ty : FieldType} {vs : List Value} {v : Value} (F : OA Z h a ty vs) (ht : ty.isReference = true) (q : 0 ≤ j.toInt ∧ j.toInt < vs.length) (hv : vs[j.toNatClampNeg]? = some v) (hd : decode bytes pc = .ok (.aaload, 1)) (hp : pc + 1 = pc') :
    OG p l e R s m args below meth c n0 h (mkF m pc ls (.int j :: .ref a :: st)) (mkF m pc' ls (v :: st)) := by
  subst hp
  rintro T locs cl sl ⟨X, N0, e0, bc, bs⟩
  obtain ⟨cc, A, r⟩ := F
  exact ⟨T, locs, ⟨X, N0, e0, bc, bs⟩, X.aaload C.1 (by rw [e0]; exact A.1) (State.isArrayOf_alike C.2.2.1.alike A.2.1) ht A.2.2 (OA.inb r q) (by rw [← r] at hv; simpa using hv) (g := mkF m pc ls (.int j :: .ref a :: st)) rfl rfl (C.d hd)⟩
theorem OG.arraylength (C : OC p s m meth c Z own nm bytes ml ret) {a : Addr} {ty : FieldType} {vs : List Value} {z : Int32} (F : OA Z h a ty vs) (hz : vs.length.toInt32 = z) (hd : decode bytes pc = .ok (.arraylength, 1)) (hp : pc + 1 = pc') :
    OG p l e R s m args below meth c n0 h (mkF m pc ls (.ref a :: st)) (mkF m pc' ls (.int z :: st)) := by
  subst hp hz
  rintro T locs cl sl ⟨X, N0, e0, bc, bs⟩
  obtain ⟨cc, A, r⟩ := F
  refine ⟨T, locs, ⟨X, N0, e0, bc, bs⟩, fun t k => X.arraylength C.1 (by rw [e0]; exact A.1) (State.isArrayOf_alike C.2.2.1.alike A.2.1) (g := mkF m pc ls (.ref a :: st)) rfl rfl (C.d hd) t ?_⟩
  have : cc.slots.size = vs.length := by rw [← r]; simp
  rw [this]; exact k
/-! returns -/
theorem OW.retI (C : OC p s m meth c Z own nm bytes ml (some .int)) {z : Int32} (hd : decode bytes pc = .ok (.ireturn, 1)) (hK : cl ≤ K) (hN : sl ≤ N) (hQ : Q (some (.int z)) h) : OW p l e R s m args below meth c n0 Q K N h cl sl (mkF m pc ls (.int z :: st)) := fun T locs ⟨X, N0, e0, bc, bs⟩ => by
  obtain ⟨fs, hr, hrun, hended, hW, hsame⟩ := X.leave (v := some (.int z)) (fun q => by rw [C.2.2.2.2.2.1] at q; cases q) C.2.2.2.2.2.2.1
  exact ⟨_, _, retOut X C.1 C.2.2.2.2.2.1 rfl (Or.inl ⟨rfl, Or.inl rfl, z, rfl⟩) (C.d hd) hr, hrun, hended, _, locs, rfl, ⟨by show Q _ T.heap; rw [e0]; exact hQ, N0⟩, ⟨_, rfl⟩, hW, hsame.mono hK hN⟩
theorem OW.retN {t : FieldType} (C : OC p s m meth c Z own nm bytes ml (some t)) {z : Int32} (ht : t = .boolean ∨ t = .byte ∨ t = .char ∨ t = .short) (hd : decode bytes pc = .ok (.ireturn, 1)) (hK : cl ≤ K) (hN : sl ≤ N) (hQ : Q (some (.int (nar t z))) h) : OW p l e R s m args below meth c n0 Q K N h cl sl (mkF m pc ls (.int z :: st)) := fun T locs ⟨X, N0, e0, bc, bs⟩ => by
  obtain ⟨fs, hr, hrun, hended, hW, hsame⟩ := X.leave (v := some (.int (nar t z))) (fun q => by rw [C.2.2.2.2.2.1] at q; cases q) C.2.2.2.2.2.2.1
  exact ⟨_, _, RoadKit.retN X C.1 C.2.2.2.2.2.1 ht (C.d hd) hr, hrun, hended, _, locs, rfl, ⟨by show Q _ T.heap; rw [e0]; exact hQ, N0⟩, ⟨_, rfl⟩, hW, hsame.mono hK hN⟩
theorem OW.retL (C : OC p s m meth c Z own nm bytes ml (some .long)) {z : Int64} (hd : decode bytes pc = .ok (.lreturn, 1)) (hK : cl ≤ K) (hN : sl ≤ N) (hQ : Q (some (.long z)) h) : OW p l e R s m args below meth c n0 Q K N h cl sl (mkF m pc ls (.long z :: st)) := fun T locs ⟨X, N0, e0, bc, bs⟩ => by
  obtain ⟨fs, hr, hrun, hended, hW, hsame⟩ := X.leave (v := some (.long z)) (fun q => by rw [C.2.2.2.2.2.1] at q; cases q) C.2.2.2.2.2.2.1
  exact ⟨_, _, retOut X C.1 C.2.2.2.2.2.1 rfl (Or.inr (Or.inl ⟨rfl, rfl, z, rfl⟩)) (C.d hd) hr, hrun, hended, _, locs, rfl, ⟨by show Q _ T.heap; rw [e0]; exact hQ, N0⟩, ⟨_, rfl⟩, hW, hsame.mono hK hN⟩
theorem OW.retA {t : FieldType} (C : OC p s m meth c Z own nm bytes ml (some t)) {v : Value} (ht : t.isReference = true) (hv : v.isRef = true) (hd : decode bytes pc = .ok (.areturn, 1)) (hK : cl ≤ K) (hN : sl ≤ N) (hQ : Q (some v) h) : OW p l e R s m args below meth c n0 Q K N h cl sl (mkF m pc ls (v :: st)) := fun T locs ⟨X, N0, e0, bc, bs⟩ => by
  have hn : narrow t v = v := by cases t <;> first | (cases ht; done) | (cases v <;> rfl)
  obtain ⟨fs, hr, hrun, hended, hW, hsame⟩ := X.leave (v := some v) (fun q => by rw [C.2.2.2.2.2.1] at q; cases q) C.2.2.2.2.2.2.1
  exact ⟨_, _, retOut X C.1 C.2.2.2.2.2.1 hn (Or.inr (Or.inr (Or.inr (Or.inr ⟨rfl, ht, hv⟩)))) (C.d hd) hr, hrun, hended, _, locs, rfl, ⟨by show Q _ T.heap; rw [e0]; exact hQ, N0⟩, ⟨_, rfl⟩, hW, hsame.mono hK hN⟩
theorem OW.retV (C : OC p s m meth c Z own nm bytes ml none) (hd : decode bytes pc = .ok (.return_, 1)) (hK : cl ≤ K) (hN : sl ≤ N) (hQ : Q none h) : OW p l e R s m args below meth c n0 Q K N h cl sl (mkF m pc ls []) := fun T locs ⟨X, N0, e0, bc, bs⟩ => by
  obtain ⟨fs, hr, hrun, hended, hW, hsame⟩ := X.leave (v := none) (fun _ => rfl) C.2.2.2.2.2.2.1
  exact ⟨_, _, X.returnOut C.1 C.2.2.2.2.2.1 (C.d hd) hr, hrun, hended, _, locs, rfl, ⟨by show Q _ T.heap; rw [e0]; exact hQ, N0⟩, ⟨_, rfl⟩, hW, hsame.mono hK hN⟩
/-! the heap: new, putfield, arrays -/
theorem OW.putF (C : OC p s m meth c Z own nm bytes ml ret) {R0 O n d host Cl : String} {i kk : Nat} {ty : FieldType} {a : Addr} {v old : Value} (w : (Cond.fieldLink own i R0 n d).before a0 Z = true ∨ (Cond.fieldLinkNest own i R0 n d host).before a0 Z = true) (via : Via Z R0 O n d) (F : Fld Z h a O n d old) (E : Exa Z h a Cl)
    (L : (Cond.lays Cl O n d).before a0 Z = true ∨ ((Cond.laysFinal Cl O n d).before a0 Z = true ∧ own = O ∧ nm = "<init>")) (wi : (Cond.instantiable Cl kk).before a0 Z = true) (hty : parseFieldDescriptor d = some ty) (hn : narrow ty v = v) (hf : fits ty v = true) (hna : n0 ≤ a) (hd : decode bytes pc = .ok (.putfield i, 3)) (hp : pc + 3 = pc')
    (k : ∀ h', Wr h h' a (slotOf Z O n d) v → OW p l e R s m args below meth c n0 Q K N h' cl sl (mkF m pc' ls st)) : OW p l e R s m args below meth c n0 Q K N h cl sl (mkF m pc ls (v :: .ref a :: st)) := fun T locs ⟨X, N0, e0, bc, bs⟩ => by
  subst hp
  obtain ⟨T', h', X', e', W, kk⟩ := RoadKit.putF X C.1 C.2.2.1 C.2.2.2.1 w via e0 F E (L.imp id fun q => ⟨q.1, q.2.1, C.2.2.2.2.2.2.2.trans q.2.2⟩) wi hty hn hf (g := mkF m pc ls (v :: .ref a :: st)) rfl rfl (C.d hd)
  obtain ⟨s₂, o, q, r⟩ := k h' W T' _ ⟨X', Fr.snoc X' N0 hna, e', bc, bs⟩
  exact ⟨s₂, o, kk _ q, r⟩
theorem OW.newO (C : OC p s m meth c Z own nm bytes ml ret) {Cl : String} {i nn : Nat} (w : (Cond.classLink own i Cl).before a0 Z = true) (wi : (Cond.instantiable Cl nn).before a0 Z = true) (wz : (Cond.initialized Cl).before a0 Z = true) (hd : decode bytes pc = .ok (.new i, 3)) (hc : cl + 1 ≤ R.cells) (hl : sl + nn ≤ R.slots) (hp : pc + 3 = pc')
    (k : ∀ (a : Addr) h', h.size = a → Ext h h' → Exa Z h' a Cl → (∀ {O nm d : String} {ty : FieldType}, Laid Z a0 Cl O nm d → parseFieldDescriptor d = some ty → Fld Z h' a O nm d (defaultValue ty)) → OW p l e R s m args below meth c n0 Q K N h' (cl + 1) (sl + nn) (mkF m pc' ls (.ref a :: st))) : OW p l e R s m args below meth c n0 Q K N h cl sl (mkF m pc ls st) := fun T locs ⟨X, N0, e0, bc, bs⟩ => by
  subst hp
  obtain ⟨T', h', X', e', E, A, D, -, kk⟩ := RoadKit.newO X C.1 C.2.2.1 C.2.2.2.1 w wi wz e0 (g := mkF m pc ls st) rfl (C.d hd) hc hl
  obtain ⟨s₂, o, q, r⟩ := k _ h' rfl E A D T' _ ⟨X', N0, e', hc, hl⟩
  exact ⟨s₂, o, kk _ q, r⟩
theorem OW.newP (C : OC p s m meth c Z own nm bytes ml ret) {aty : ArrayType} {n : Int32} {cap : Nat} {ty : FieldType} (hty : newarray.typeOf aty = ty) (w : (Cond.arrayClass ty).before a0 Z = true) (hn : ¬ n < 0) (hcap : n.toNatClampNeg = cap) (hb : cap * 8 ≤ 536870912) (hd : decode bytes pc = .ok (.newarray aty, 2)) (hc : cl + 1 ≤ R.cells) (hl : sl + cap ≤ R.slots) (hp : pc + 2 = pc')
    (k : ∀ (a : Addr) h', h.size = a → Ext h h' → OA Z h' a ty (List.replicate cap (defaultValue ty)) → OW p l e R s m args below meth c n0 Q K N h' (cl + 1) (sl + cap) (mkF m pc' ls (.ref a :: st))) : OW p l e R s m args below meth c n0 Q K N h cl sl (mkF m pc ls (.int n :: st)) := fun T locs ⟨X, N0, e0, bc, bs⟩ => by
  subst hp hty
  obtain ⟨T', h', cA, X', e', E, A, kk⟩ := RoadKit.newP X C.1 C.2.2.1 w e0 (g := mkF m pc ls (.int n :: st)) rfl (C.d hd) rfl hn (Nat.le_of_eq hcap) hb hc hl
  obtain ⟨s₂, o, q, r⟩ := k _ h' rfl E (OA.new A hcap) T' _ ⟨X', N0, e', hc, hl⟩
  exact ⟨s₂, o, kk _ q, r⟩
theorem OW.lastore (C : OC p s m meth c Z own nm bytes ml ret) {a : Addr} {j : Int32} {x : Int64} {vs : List Value} (F : OA Z h a .long vs) (q : 0 ≤ j.toInt ∧ j.toInt < vs.length) (hna : n0 ≤ a) (hd : decode bytes pc = .ok (.lastore, 1)) (hp : pc + 1 = pc')
    (k : ∀ h', Wr h h' a j.toNatClampNeg (.long x) → OW p l e R s m args below meth c n0 Q K N h' cl sl (mkF m pc' ls st)) : OW p l e R s m args below meth c n0 Q K N h cl sl (mkF m pc ls (.long x :: .int j :: .ref a :: st)) := fun T locs ⟨X, N0, e0, bc, bs⟩ => by
  subst hp
  obtain ⟨cc, A, r⟩ := F
  obtain ⟨T', h', X', e', W, kk⟩ := stJ X C.1 C.2.2.1 e0 A (OA.inb r q) (g := mkF m pc ls (.long x :: .int j :: .ref a :: st)) rfl rfl (C.d hd)
  obtain ⟨s₂, o, q, r⟩ := k h' W T' _ ⟨X', Fr.snoc X' N0 hna, e', bc, bs⟩
  exact ⟨s₂, o, kk _ q, r⟩
theorem OW.iastore (C : OC p s m meth c Z own nm bytes ml ret) {a : Addr} {j x : Int32} {vs : List Value} (F : OA Z h a .int vs) (q : 0 ≤ j.toInt ∧ j.toInt < vs.length) (hna : n0 ≤ a) (hd : decode bytes pc = .ok (.iastore, 1)) (hp : pc + 1 = pc')
    (k : ∀ h', Wr h h' a j.toNatClampNeg (.int x) → OW p l e R s m args below meth c n0 Q K N h' cl sl (mkF m pc' ls st)) : OW p l e R s m args below meth c n0 Q K N h cl sl (mkF m pc ls (.int x :: .int j :: .ref a :: st)) := fun T locs ⟨X, N0, e0, bc, bs⟩ => by
  subst hp
  obtain ⟨cc, A, r⟩ := F
  obtain ⟨T', h', X', e', W, kk⟩ := stI X C.1 C.2.2.1 e0 A (OA.inb r q) (g := mkF m pc ls (.int x :: .int j :: .ref a :: st)) rfl rfl (C.d hd)
  obtain ⟨s₂, o, q, r⟩ := k h' W T' _ ⟨X', Fr.snoc X' N0 hna, e', bc, bs⟩
  exact ⟨s₂, o, kk _ q, r⟩
theorem OW.bastore (C : OC p s m meth c Z own nm bytes ml ret) {a : Addr} {j x : Int32} {vs : List Value} (F : OA Z h a .byte vs) (q : 0 ≤ j.toInt ∧ j.toInt < vs.length) (hna : n0 ≤ a) (hd : decode bytes pc = .ok (.bastore, 1)) (hp : pc + 1 = pc')
    (k : ∀ h', Wr h h' a j.toNatClampNeg (.int (nar .byte x)) → OW p l e R s m args below meth c n0 Q K N h' cl sl (mkF m pc' ls st)) : OW p l e R s m args below meth c n0 Q K N h cl sl (mkF m pc ls (.int x :: .int j :: .ref a :: st)) := fun T locs ⟨X, N0, e0, bc, bs⟩ => by
  subst hp
  obtain ⟨cc, A, r⟩ := F
  obtain ⟨T', h', X', e', W, kk⟩ := stB X C.1 C.2.2.1 e0 A (OA.inb r q) (g := mkF m pc ls (.int x :: .int j :: .ref a :: st)) rfl rfl (C.d hd)
  obtain ⟨s₂, o, q, r⟩ := k h' W T' _ ⟨X', Fr.snoc X' N0 hna, e', bc, bs⟩
  exact ⟨s₂, o, kk _ q, r⟩
theorem OW.castore (C : OC p s m meth c Z own nm bytes ml ret) {a : Addr} {j x : Int32} {vs : List Value} (F : OA Z h a .char vs) (q : 0 ≤ j.toInt ∧ j.toInt < vs.length) (hna : n0 ≤ a) (hd : decode bytes pc = .ok (.castore, 1)) (hp : pc + 1 = pc')
    (k : ∀ h', Wr h h' a j.toNatClampNeg (.int (nar .char x)) → OW p l e R s m args below meth c n0 Q K N h' cl sl (mkF m pc' ls st)) : OW p l e R s m args below meth c n0 Q K N h cl sl (mkF m pc ls (.int x :: .int j :: .ref a :: st)) := fun T locs ⟨X, N0, e0, bc, bs⟩ => by
  subst hp
  obtain ⟨cc, A, r⟩ := F
  obtain ⟨T', h', X', e', W, kk⟩ := stC X C.1 C.2.2.1 e0 A (OA.inb r q) (g := mkF m pc ls (.int x :: .int j :: .ref a :: st)) rfl rfl (C.d hd)
  obtain ⟨s₂, o, q, r⟩ := k h' W T' _ ⟨X', Fr.snoc X' N0 hna, e', bc, bs⟩
  exact ⟨s₂, o, kk _ q, r⟩
theorem OG.initO (C : OC p s m meth c Z own nm bytes ml ret) {i W : Nat} {a : Addr} (w1 : (Cond.methodLink own i Lib.objectInit).before a0 Z = true) (w2 : (Cond.instanceMethod Lib.objectInit).before a0 Z = true) (w3 : (Cond.code Lib.objectInit ⟨#[0xb1]⟩ 1 none).before a0 Z = true) (hd : decode bytes pc = .ok (.invokespecial i, 3)) (hsz : ls.size = ml) (hf : 1 ≤ R.frames) (hW : (st.map fun v => v.category).sum = W) (hl : W + 12 ≤ R.locals) (hp : pc + 3 = pc') :
    OG p l e R s m args below meth c n0 h (mkF m pc ls (.ref a :: st)) (mkF m pc' ls st) := by
  subst hp
  rintro T locs cl sl ⟨X, N0, e0, bc, bs⟩
  obtain ⟨T', X', e', k⟩ := RoadKit.initO X C.1 C.2.2.1 C.2.2.2.1 w1 w2 w3 e0 (g := mkF m pc ls (.ref a :: st)) rfl (by rw [C.2.2.2.2.1]; exact hsz) rfl (C.d hd) hf (W := W) (by show 2 * 0 + _ ≤ _; omega) hl
  exact ⟨T', locs, ⟨X', N0, e', bc, bs⟩, k⟩
/-! contracts and calls -/
def OM (l : Launch) (Z : State) (y : MethodName) (bytes : ByteArray) (ml : Nat) (ret : Option FieldType) (rm : Room) (n0 : Nat) (h : Heap) (as' : Array Value) (Q : Option Value → Heap → Prop) (K N : Nat) : Prop :=
  ∀ ws : List Cond, MetFree l y (head1 (Cond.code y bytes ml ret :: ws) rm) (fun a U => a = as' ∧ Z.Warmed39 U.vm ∧ U.heap = h) (fun _ _ _ _ _ => True) (fun _ U o U' => ∃ v L, o = .returned v ∧ (Q v U'.heap ∧ Fr n0 L) ∧ FrameEnd U o U' L K N)
theorem OM.of_body {y : MethodName} {rm : Room} {as' : Array Value} (hy : plainFor y = true) (hef : ∀ m, entryFrame m as' ml = mkF m 0 ls [])
    (body : ∀ (p : Program) (e : Env) (s : State) (m : MethodId) (below : List Frame) (meth : Method) (c : Code), OC p s m meth c Z y.cls y.name bytes ml ret → OW p l e rm s m as' below meth c n0 Q K N h 0 0 (mkF m 0 ls [])) : OM l Z y bytes ml ret rm n0 h as' Q K N := by
  intro ws
  refine MetFree.of_bodySF hy hisR ?_
  intro p e s m args below meth c s₁ Bd hml0 hP hK
  obtain ⟨rfl, hZ, hh⟩ := hP
  have e0 : s₁.heap = h := by rw [← hh, Bd.state]; rfl
  have X0 : Stand p l e rm s m args below meth c s₁ [] 0 0 := Stand.of_body Bd
  rw [hef m]
  exact body p e s m below meth c ⟨Bd.exec, Bd.bytes, hZ, findClass_of_methodNamed Bd.named, hml0, Bd.returns, Bd.notSynchronized, (name_of_methodNamed Bd.named Bd.method).1⟩ s₁ [] ⟨X0, Fr.nil n0, e0, Nat.zero_le _, Nat.zero_le _⟩
theorem OW.callS (C : OC p s m meth c Z own nm bytes ml ret) {i : Nat} {y : MethodName} {bytes' : ByteArray} {ml' W : Nat} {ret' r0 : Option FieldType} {rm : Room} {argsL rest : List Value} {ps : List FieldType} {Q' : Option Value → Heap → Prop}
    (w1 : (Cond.methodLink own i y).before a0 Z = true) (w2 : (Cond.static y).before a0 Z = true) (w3 : (Cond.initialized y.cls).before a0 Z = true) (w4 : (Cond.code y bytes' ml' ret').before a0 Z = true) (hy : y.cls ≠ "java/lang/invoke/MethodHandle" ∧ y.cls ≠ "java/lang/invoke/VarHandle")
    (hM : OM l Z y bytes' ml' ret' rm n0 h argsL.toArray Q' rm.cells rm.slots) (hd : decode bytes pc = .ok (.invokestatic i, 3)) (hpd : parseMethodDescriptor y.desc = some ⟨ps, r0⟩) (hlen : argsL.length = ps.length) (hst : st = argsL.reverse ++ rest) (hsz : ls.size = ml) (hW : (rest.map fun v => v.category).sum = W)
    (hf : rm.frames + 1 ≤ R.frames) (hlo : W + (ml' + 11) + rm.locals ≤ R.locals) (hcl : cl + rm.cells ≤ R.cells) (hsl : sl + rm.slots ≤ R.slots) (hp : pc + 3 = pc')
    (k : ∀ v h', Q' v h' → OW p l e R s m args below meth c n0 Q K N h' (cl + rm.cells) (sl + rm.slots) (mkF m pc' ls (v.toList ++ rest))) : OW p l e R s m args below meth c n0 Q K N h cl sl (mkF m pc ls st) := fun T locs ⟨X, N0, e0, bc, bs⟩ => by
  subst hp
  obtain ⟨v, vm, ⟨T', L', cl', sl'⟩, -, X', ⟨Lc, ⟨hQ, hL⟩, e1, e2, e3⟩, kk⟩ := Jvm.LawKit.callS X C.1 C.2.2.2.1 (mv C.2.2.1 w1) (mv C.2.2.1 w2) (mv C.2.2.1 w3) (mv C.2.2.1 w4) hy (backOf (W := W) (Q := fun v h L => Q' v h ∧ Fr n0 L) (hM []) C.2.2.1 w4 w3 hf hlo) (g := mkF m pc ls st) rfl (by rw [C.2.2.2.2.1]; exact hsz) (argsL := argsL) (rest := rest) (lenOf hpd hlen) hst (by show 2 * 0 + _ ≤ _; omega) (C.d hd) (fun _ _ => ⟨rfl, e0, hcl, hsl⟩)
  dsimp only [Pt.U, Pt.locs, Pt.cells, Pt.slots] at X' e1 e2 e3 kk hQ
  subst e1 e2 e3
  obtain ⟨s₂, o, q, r⟩ := k v _ hQ T' _ ⟨X', Fr.app N0 hL, rfl, hcl, hsl⟩
  exact ⟨s₂, o, kk _ q, r⟩
theorem OG.callS (C : OC p s m meth c Z own nm bytes ml ret) {i : Nat} {y : MethodName} {bytes' : ByteArray} {ml' W fr lo : Nat} {ret' r0 : Option FieldType} {argsL rest : List Value} {ps : List FieldType} {w : Value}
    (w1 : (Cond.methodLink own i y).before a0 Z = true) (w2 : (Cond.static y).before a0 Z = true) (w3 : (Cond.initialized y.cls).before a0 Z = true) (w4 : (Cond.code y bytes' ml' ret').before a0 Z = true) (hy : y.cls ≠ "java/lang/invoke/MethodHandle" ∧ y.cls ≠ "java/lang/invoke/VarHandle")
    (hM : OM l Z y bytes' ml' ret' ⟨fr, 0, 0, lo⟩ n0 h argsL.toArray (fun v h' => v = some w ∧ h' = h) 0 0) (hd : decode bytes pc = .ok (.invokestatic i, 3)) (hpd : parseMethodDescriptor y.desc = some ⟨ps, r0⟩) (hlen : argsL.length = ps.length) (hst : st = argsL.reverse ++ rest) (hsz : ls.size = ml) (hW : (rest.map fun v => v.category).sum = W)
    (hf : fr + 1 ≤ R.frames) (hlo : W + (ml' + 11) + lo ≤ R.locals) (hp : pc + 3 = pc') :
    OG p l e R s m args below meth c n0 h (mkF m pc ls st) (mkF m pc' ls (w :: rest)) := fun T locs cl sl ⟨X, N0, e0, bc, bs⟩ => by
  subst hp
  obtain ⟨v, vm, ⟨T', L', cl', sl'⟩, -, X', ⟨Lc, ⟨⟨rfl, hQ⟩, hL⟩, e1, e2, e3⟩, kk⟩ := Jvm.LawKit.callS X C.1 C.2.2.2.1 (mv C.2.2.1 w1) (mv C.2.2.1 w2) (mv C.2.2.1 w3) (mv C.2.2.1 w4) hy (backOf (W := W) (Q := fun v h' L => (v = some w ∧ h' = h) ∧ Fr n0 L) (hM []) C.2.2.1 w4 w3 hf hlo) (g := mkF m pc ls st) rfl (by rw [C.2.2.2.2.1]; exact hsz) (argsL := argsL) (rest := rest) (lenOf hpd hlen) hst (by show 2 * 0 + _ ≤ _; omega) (C.d hd) (fun _ _ => ⟨rfl, e0, bc, bs⟩)
  dsimp only [Pt.U, Pt.locs, Pt.cells, Pt.slots] at X' e1 e2 e3 kk hQ
  subst e1 e2 e3
  exact ⟨T', _, ⟨X', Fr.app N0 hL, hQ, bc, bs⟩, kk⟩
theorem OG.callSV (C : OC p s m meth c Z own nm bytes ml ret) {i : Nat} {y : MethodName} {bytes' : ByteArray} {ml' W fr lo : Nat} {ret' r0 : Option FieldType} {argsL rest : List Value} {ps : List FieldType}
    (w1 : (Cond.methodLink own i y).before a0 Z = true) (w2 : (Cond.static y).before a0 Z = true) (w3 : (Cond.initialized y.cls).before a0 Z = true) (w4 : (Cond.code y bytes' ml' ret').before a0 Z = true) (hy : y.cls ≠ "java/lang/invoke/MethodHandle" ∧ y.cls ≠ "java/lang/invoke/VarHandle")
    (hM : OM l Z y bytes' ml' ret' ⟨fr, 0, 0, lo⟩ n0 h argsL.toArray (fun v h' => v = none ∧ h' = h) 0 0) (hd : decode bytes pc = .ok (.invokestatic i, 3)) (hpd : parseMethodDescriptor y.desc = some ⟨ps, r0⟩) (hlen : argsL.length = ps.length) (hst : st = argsL.reverse ++ rest) (hsz : ls.size = ml) (hW : (rest.map fun v => v.category).sum = W)
    (hf : fr + 1 ≤ R.frames) (hlo : W + (ml' + 11) + lo ≤ R.locals) (hp : pc + 3 = pc') :
    OG p l e R s m args below meth c n0 h (mkF m pc ls st) (mkF m pc' ls rest) := fun T locs cl sl ⟨X, N0, e0, bc, bs⟩ => by
  subst hp
  obtain ⟨v, vm, ⟨T', L', cl', sl'⟩, -, X', ⟨Lc, ⟨⟨rfl, hQ⟩, hL⟩, e1, e2, e3⟩, kk⟩ := Jvm.LawKit.callS X C.1 C.2.2.2.1 (mv C.2.2.1 w1) (mv C.2.2.1 w2) (mv C.2.2.1 w3) (mv C.2.2.1 w4) hy (backOf (W := W) (Q := fun v h' L => (v = none ∧ h' = h) ∧ Fr n0 L) (hM []) C.2.2.1 w4 w3 hf hlo) (g := mkF m pc ls st) rfl (by rw [C.2.2.2.2.1]; exact hsz) (argsL := argsL) (rest := rest) (lenOf hpd hlen) hst (by show 2 * 0 + _ ≤ _; omega) (C.d hd) (fun _ _ => ⟨rfl, e0, bc, bs⟩)
  dsimp only [Pt.U, Pt.locs, Pt.cells, Pt.slots] at X' e1 e2 e3 kk hQ
  subst e1 e2 e3
  exact ⟨T', _, ⟨X', Fr.app N0 hL, hQ, bc, bs⟩, kk⟩
theorem OW.init (C : OC p s m meth c Z own nm bytes ml ret) {i : Nat} {y : MethodName} {bytes' : ByteArray} {ml' W : Nat} {r0 : Option FieldType} {rm : Room} {argsL rest : List Value} {ps : List FieldType} {Q' : Option Value → Heap → Prop} {a : Addr}
    (w1 : (Cond.methodLink own i y).before a0 Z = true) (w2 : (Cond.instanceMethod y).before a0 Z = true) (w3 : (Cond.initialized y.cls).before a0 Z = true) (w4 : (Cond.code y bytes' ml' none).before a0 Z = true) (hyi : y.name = "<init>") (hy : y.cls ≠ "java/lang/invoke/MethodHandle" ∧ y.cls ≠ "java/lang/invoke/VarHandle")
    (hM : OM l Z y bytes' ml' none rm n0 h (.ref a :: argsL).toArray Q' rm.cells rm.slots) (hd : decode bytes pc = .ok (.invokespecial i, 3)) (hpd : parseMethodDescriptor y.desc = some ⟨ps, r0⟩) (hlen : argsL.length = ps.length) (hst : st = argsL.reverse ++ .ref a :: rest) (hsz : ls.size = ml) (hW : (rest.map fun v => v.category).sum = W)
    (hf : rm.frames + 1 ≤ R.frames) (hlo : W + (ml' + 11) + rm.locals ≤ R.locals) (hcl : cl + rm.cells ≤ R.cells) (hsl : sl + rm.slots ≤ R.slots) (hp : pc + 3 = pc')
    (k : ∀ v h', Q' v h' → OW p l e R s m args below meth c n0 Q K N h' (cl + rm.cells) (sl + rm.slots) (mkF m pc' ls (v.toList ++ rest))) : OW p l e R s m args below meth c n0 Q K N h cl sl (mkF m pc ls st) := fun T locs ⟨X, N0, e0, bc, bs⟩ => by
  subst hp
  obtain ⟨v, vm, ⟨T', L', cl', sl'⟩, -, X', ⟨Lc, ⟨hQ, hL⟩, e1, e2, e3⟩, kk⟩ := X.specialBack C.1 hyi C.2.2.2.1 (mv C.2.2.1 w1) (mv C.2.2.1 w2) (mv C.2.2.1 w4) hy (backOf (W := W) (Q := fun v h L => Q' v h ∧ Fr n0 L) (hM []) C.2.2.1 w4 w3 hf hlo) (g := mkF m pc ls st) rfl (by rw [C.2.2.2.2.1]; exact hsz) (Steps.refl _) (a := a) (argsL := argsL) (rest := rest) (lenOf hpd hlen) hst (by show 2 * 0 + _ ≤ _; omega) (C.d hd) (fun _ _ => ⟨rfl, e0, hcl, hsl⟩)
  dsimp only [Pt.U, Pt.locs, Pt.cells, Pt.slots] at X' e1 e2 e3 kk hQ
  subst e1 e2 e3
  obtain ⟨s₂, o, q, r⟩ := k v _ hQ T' _ ⟨X', Fr.app N0 hL, rfl, hcl, hsl⟩
  exact ⟨s₂, o, kk.trans q, r⟩
theorem OG.init (C : OC p s m meth c Z own nm bytes ml ret) {i : Nat} {y : MethodName} {bytes' : ByteArray} {ml' W fr lo : Nat} {r0 : Option FieldType} {argsL rest : List Value} {ps : List FieldType} {a : Addr}
    (w1 : (Cond.methodLink own i y).before a0 Z = true) (w2 : (Cond.instanceMethod y).before a0 Z = true) (w3 : (Cond.initialized y.cls).before a0 Z = true) (w4 : (Cond.code y bytes' ml' none).before a0 Z = true) (hyi : y.name = "<init>") (hy : y.cls ≠ "java/lang/invoke/MethodHandle" ∧ y.cls ≠ "java/lang/invoke/VarHandle")
    (hM : OM l Z y bytes' ml' none ⟨fr, 0, 0, lo⟩ n0 h (.ref a :: argsL).toArray (fun v h' => v = none ∧ h' = h) 0 0) (hd : decode bytes pc = .ok (.invokespecial i, 3)) (hpd : parseMethodDescriptor y.desc = some ⟨ps, r0⟩) (hlen : argsL.length = ps.length) (hst : st = argsL.reverse ++ .ref a :: rest) (hsz : ls.size = ml) (hW : (rest.map fun v => v.category).sum = W)
    (hf : fr + 1 ≤ R.frames) (hlo : W + (ml' + 11) + lo ≤ R.locals) (hp : pc + 3 = pc') :
    OG p l e R s m args below meth c n0 h (mkF m pc ls st) (mkF m pc' ls rest) := fun T locs cl sl ⟨X, N0, e0, bc, bs⟩ => by
  subst hp
  obtain ⟨v, vm, ⟨T', L', cl', sl'⟩, -, X', ⟨Lc, ⟨⟨rfl, hQ⟩, hL⟩, e1, e2, e3⟩, kk⟩ := X.specialBack C.1 hyi C.2.2.2.1 (mv C.2.2.1 w1) (mv C.2.2.1 w2) (mv C.2.2.1 w4) hy (backOf (W := W) (Q := fun v h' L => (v = none ∧ h' = h) ∧ Fr n0 L) (hM []) C.2.2.1 w4 w3 hf hlo) (g := mkF m pc ls st) rfl (by rw [C.2.2.2.2.1]; exact hsz) (Steps.refl _) (a := a) (argsL := argsL) (rest := rest) (lenOf hpd hlen) hst (by show 2 * 0 + _ ≤ _; omega) (C.d hd) (fun _ _ => ⟨rfl, e0, bc, bs⟩)
  dsimp only [Pt.U, Pt.locs, Pt.cells, Pt.slots] at X' e1 e2 e3 kk hQ
  subst e1 e2 e3
  exact ⟨T', _, ⟨X', Fr.app N0 hL, hQ, bc, bs⟩, fun t q => kk.trans q⟩
theorem OW.callV (C : OC p s m meth c Z own nm bytes ml ret) {i : Nat} {y : MethodName} {bytes' : ByteArray} {ml' W : Nat} {ret' r0 : Option FieldType} {rm : Room} {argsL rest : List Value} {ps : List FieldType} {Q' : Option Value → Heap → Prop} {a : Addr} {Cl : String}
    (w1 : (Cond.methodLink own i y).before a0 Z = true) (wd : (Cond.declares y).before a0 Z = true) (ws : (Cond.selects Cl y y).before a0 Z = true) (w2 : (Cond.instanceMethod y).before a0 Z = true) (w3 : (Cond.initialized y.cls).before a0 Z = true) (w4 : (Cond.code y bytes' ml' ret').before a0 Z = true) (hy : y.cls ≠ "java/lang/invoke/MethodHandle" ∧ y.cls ≠ "java/lang/invoke/VarHandle") (E : Exa Z h a Cl)
    (hM : OM l Z y bytes' ml' ret' rm n0 h (.ref a :: argsL).toArray Q' rm.cells rm.slots) (hd : decode bytes pc = .ok (.invokevirtual i, 3)) (hpd : parseMethodDescriptor y.desc = some ⟨ps, r0⟩) (hlen : argsL.length = ps.length) (hst : st = argsL.reverse ++ .ref a :: rest) (hsz : ls.size = ml) (hW : (rest.map fun v => v.category).sum = W)
    (hf : rm.frames + 1 ≤ R.frames) (hlo : W + (ml' + 11) + rm.locals ≤ R.locals) (hcl : cl + rm.cells ≤ R.cells) (hsl : sl + rm.slots ≤ R.slots) (hp : pc + 3 = pc')
    (k : ∀ v h', Q' v h' → OW p l e R s m args below meth c n0 Q K N h' (cl + rm.cells) (sl + rm.slots) (mkF m pc' ls (v.toList ++ rest))) : OW p l e R s m args below meth c n0 Q K N h cl sl (mkF m pc ls st) := fun T locs ⟨X, N0, e0, bc, bs⟩ => by
  subst hp
  obtain ⟨cq, kq, qa, qb, qc⟩ := isOf C.2.2.1 e0 E
  obtain ⟨v, vm, ⟨T', L', cl', sl'⟩, -, X', ⟨Lc, ⟨hQ, hL⟩, e1, e2, e3⟩, kk⟩ := X.virtualBack C.1 C.2.2.2.1 (mv C.2.2.1 w1) (mv C.2.2.1 wd) (notFace_of_selects (args := #[]) (mv C.2.2.1 ws)) (mv C.2.2.1 ws) (mv C.2.2.1 w2) hy (backOf (W := W) (Q := fun v h L => Q' v h ∧ Fr n0 L) (hM []) C.2.2.1 w4 w3 hf hlo) qa qc (g := mkF m pc ls st) rfl (by rw [C.2.2.2.2.1]; exact hsz) (Steps.refl _) (argsL := argsL) (rest := rest) (lenOf hpd hlen) hst (by show 2 * 0 + _ ≤ _; omega) (C.d hd) (fun _ _ => ⟨rfl, e0, hcl, hsl⟩)
  dsimp only [Pt.U, Pt.locs, Pt.cells, Pt.slots] at X' e1 e2 e3 kk hQ
  subst e1 e2 e3
  obtain ⟨s₂, o, q, r⟩ := k v _ hQ T' _ ⟨X', Fr.app N0 hL, rfl, hcl, hsl⟩
  exact ⟨s₂, o, kk.trans q, r⟩
theorem OG.callV (C : OC p s m meth c Z own nm bytes ml ret) {i : Nat} {y : MethodName} {bytes' : ByteArray} {ml' W fr lo : Nat} {ret' r0 : Option FieldType} {argsL rest : List Value} {ps : List FieldType} {w : Value} {a : Addr} {Cl : String}
    (w1 : (Cond.methodLink own i y).before a0 Z = true) (wd : (Cond.declares y).before a0 Z = true) (ws : (Cond.selects Cl y y).before a0 Z = true) (w2 : (Cond.instanceMethod y).before a0 Z = true) (w3 : (Cond.initialized y.cls).before a0 Z = true) (w4 : (Cond.code y bytes' ml' ret').before a0 Z = true) (hy : y.cls ≠ "java/lang/invoke/MethodHandle" ∧ y.cls ≠ "java/lang/invoke/VarHandle") (E : Exa Z h a Cl)
    (hM : OM l Z y bytes' ml' ret' ⟨fr, 0, 0, lo⟩ n0 h (.ref a :: argsL).toArray (fun v h' => v = some w ∧ h' = h) 0 0) (hd : decode bytes pc = .ok (.invokevirtual i, 3)) (hpd : parseMethodDescriptor y.desc = some ⟨ps, r0⟩) (hlen : argsL.length = ps.length) (hst : st = argsL.reverse ++ .ref a :: rest) (hsz : ls.size = ml) (hW : (rest.map fun v => v.category).sum = W)
    (hf : fr + 1 ≤ R.frames) (hlo : W + (ml' + 11) + lo ≤ R.locals) (hp : pc + 3 = pc') :
    OG p l e R s m args below meth c n0 h (mkF m pc ls st) (mkF m pc' ls (w :: rest)) := fun T locs cl sl ⟨X, N0, e0, bc, bs⟩ => by
  subst hp
  obtain ⟨cq, kq, qa, qb, qc⟩ := isOf C.2.2.1 e0 E
  obtain ⟨v, vm, ⟨T', L', cl', sl'⟩, -, X', ⟨Lc, ⟨⟨rfl, hQ⟩, hL⟩, e1, e2, e3⟩, kk⟩ := X.virtualBack C.1 C.2.2.2.1 (mv C.2.2.1 w1) (mv C.2.2.1 wd) (notFace_of_selects (args := #[]) (mv C.2.2.1 ws)) (mv C.2.2.1 ws) (mv C.2.2.1 w2) hy (backOf (W := W) (Q := fun v h' L => (v = some w ∧ h' = h) ∧ Fr n0 L) (hM []) C.2.2.1 w4 w3 hf hlo) qa qc (g := mkF m pc ls st) rfl (by rw [C.2.2.2.2.1]; exact hsz) (Steps.refl _) (argsL := argsL) (rest := rest) (lenOf hpd hlen) hst (by show 2 * 0 + _ ≤ _; omega) (C.d hd) (fun _ _ => ⟨rfl, e0, bc, bs⟩)
  dsimp only [Pt.U, Pt.locs, Pt.cells, Pt.slots] at X' e1 e2 e3 kk hQ
  subst e1 e2 e3
  exact ⟨T', _, ⟨X', Fr.app N0 hL, hQ, bc, bs⟩, fun t q => kk.trans q⟩
theorem OG.callI (C : OC p s m meth c Z own nm bytes ml ret) {i cnt : Nat} {xi y : MethodName} {bytes' : ByteArray} {ml' W fr lo : Nat} {ret' r0 : Option FieldType} {argsL rest : List Value} {ps : List FieldType} {w : Value} {a : Addr} {Cl : String}
    (w1 : (Cond.methodLink own i xi).before a0 Z = true) (wd : (Cond.declares xi).before a0 Z = true) (wf : (Cond.interfaceMethod xi.cls xi.cls xi.name xi.desc).before a0 Z = true) (ws : (Cond.selects Cl xi y).before a0 Z = true) (w2 : (Cond.instanceMethod y).before a0 Z = true) (wp : (Cond.publicMethod y).before a0 Z = true) (wu : (Cond.unhidden Cl xi.name xi.desc).before a0 Z = true) (wc : (Cond.castable Cl xi.cls).before a0 Z = true)
    (w3 : (Cond.initialized y.cls).before a0 Z = true) (w4 : (Cond.code y bytes' ml' ret').before a0 Z = true) (hfa : ((Cond.interfaceMethod xi.cls xi.cls xi.name xi.desc).onTables && (Cond.interfaceMethod xi.cls xi.cls xi.name xi.desc).keepsFace) = true) (hy : xi.cls ≠ "java/lang/invoke/MethodHandle" ∧ xi.cls ≠ "java/lang/invoke/VarHandle") (E : Exa Z h a Cl)
    (hM : OM l Z y bytes' ml' ret' ⟨fr, 0, 0, lo⟩ n0 h (.ref a :: argsL).toArray (fun v h' => v = some w ∧ h' = h) 0 0) (hd : decode bytes pc = .ok (.invokeinterface i cnt, 5)) (hpd : parseMethodDescriptor xi.desc = some ⟨ps, r0⟩) (hlen : argsL.length = ps.length) (hst : st = argsL.reverse ++ .ref a :: rest) (hsz : ls.size = ml) (hW : (rest.map fun v => v.category).sum = W)
    (hf : fr + 1 ≤ R.frames) (hlo : W + (ml' + 11) + lo ≤ R.locals) (hp : pc + 5 = pc') :
    OG p l e R s m args below meth c n0 h (mkF m pc ls st) (mkF m pc' ls (w :: rest)) := fun T locs cl sl ⟨X, N0, e0, bc, bs⟩ => by
  subst hp
  obtain ⟨cq, kq, qa, qb, qc⟩ := isOf C.2.2.1 e0 E
  obtain ⟨v, vm, ⟨T', L', cl', sl'⟩, -, X', ⟨Lc, ⟨⟨rfl, hQ⟩, hL⟩, e1, e2, e3⟩, kk⟩ := X.interfaceBack C.1 C.2.2.2.1 (mv C.2.2.1 w1) (mv C.2.2.1 wd) (mv C.2.2.1 wf hfa) (mv C.2.2.1 ws) (mv C.2.2.1 w2) (mv C.2.2.1 wp) (mv C.2.2.1 wu) (mv C.2.2.1 wc) hy (backOf (W := W) (Q := fun v h' L => (v = some w ∧ h' = h) ∧ Fr n0 L) (hM []) C.2.2.1 w4 w3 hf hlo) qa qb qc (g := mkF m pc ls st) rfl (by rw [C.2.2.2.2.1]; exact hsz) (Steps.refl _) (argsL := argsL) (rest := rest) (lenOf hpd hlen) hst (by show 2 * 0 + _ ≤ _; omega) (C.d hd) (fun _ _ => ⟨rfl, e0, bc, bs⟩)
  dsimp only [Pt.U, Pt.locs, Pt.cells, Pt.slots] at X' e1 e2 e3 kk hQ
  subst e1 e2 e3
  exact ⟨T', _, ⟨X', Fr.app N0 hL, hQ, bc, bs⟩, fun t q => kk.trans q⟩
theorem own_nb (c : Int32) : nar .byte c.toInt8.toInt32 = c.toInt8.toInt32 := by
  show c.toInt8.toInt32.toInt8.toInt32 = _
  have q := c_i2b c
  have q2 := c_i2b c.toInt8.toInt32
  apply Int32.toInt_inj.mp
  omega
theorem Exa.pl {h : Heap} {a : Addr} {C : String} (F : Exa Z h a C) : ∃ c : Cell, h[a]? = some c ∧ c.vm.isStatics = false := by obtain ⟨c, _, h1, -, -, h4, -⟩ := F; exact ⟨c, h1, h4⟩
theorem OA.pl {a : Addr} {ty : FieldType} {vs : List Value} (F : OA Z h a ty vs) : ∃ c : Cell, h[a]? = some c ∧ c.vm.isStatics = false := by obtain ⟨c, A, -⟩ := F; exact ⟨c, A.1, A.plain⟩
theorem OPl.ext {h h' : Heap} {a : Addr} (F : ∃ c : Cell, h[a]? = some c ∧ c.vm.isStatics = false) (E : Ext h h') : ∃ c : Cell, h'[a]? = some c ∧ c.vm.isStatics = false := by obtain ⟨c, h1, h2⟩ := F; exact ⟨c, E.2 _ _ h1, h2⟩
theorem OPl.wr {h h' : Heap} {a b : Addr} {k : Nat} {v : Value} (F : ∃ c : Cell, h[a]? = some c ∧ c.vm.isStatics = false) (W : Wr h h' b k v) : ∃ c : Cell, h'[a]? = some c ∧ c.vm.isStatics = false := by
  obtain ⟨c, h1, h2⟩ := F
  obtain ⟨c', e1, -, e3, -⟩ := wr_at W h1
  exact ⟨c', e1, by rw [e3]; exact h2⟩
theorem OPl.keep {h h' : Heap} {a : Addr} {ws : List Addr} (F : ∃ c : Cell, h[a]? = some c ∧ c.vm.isStatics = false) (K : Keep h h' ws) : ∃ c : Cell, h'[a]? = some c ∧ c.vm.isStatics = false := by
  obtain ⟨c, h1, h2⟩ := F
  obtain ⟨c', e1, -, e3, -⟩ := K.2.2 _ _ h1
  exact ⟨c', e1, by rw [e3]; exact h2⟩
theorem Sta.kp {h h' : Heap} {C n d : String} {v : Value} {ws : List Addr} (F : Sta Z h C n d v) (K : Keep h h' ws) (q : ∀ a ∈ ws, ∃ c : Cell, h[a]? = some c ∧ c.vm.isStatics = false) : Sta Z h' C n d v := by
  obtain ⟨cf, i, k, f, st, cell, h1, h2, h3, h4, h5, h6, h7⟩ := F
  refine ⟨cf, i, k, f, st, cell, h1, h2, h3, h4, K.2.1 st cell h5 (fun hm => ?_), h6, h7⟩
  obtain ⟨c, e1, e2⟩ := q st hm
  cases h5.symm.trans e1
  rw [h6] at e2; cases e2
theorem OW.join {P : Value → Heap → Prop} {f : Value → JFrame} {cl' sl' : Nat} (b : (∀ v h', P v h' → OW p l e R s m args below meth c n0 Q K N h' cl' sl' (f v)) → OW p l e R s m args below meth c n0 Q K N h cl sl g) (k : ∀ v h', P v h' → OW p l e R s m args below meth c n0 Q K N h' cl' sl' (f v)) : OW p l e R s m args below meth c n0 Q K N h cl sl g := b k
theorem own_nr {v : Value} {t : FieldType} (q : v.isRef = true) (ht : t.isReference = true) : narrow t v = v ∧ fits t v = true := by
  rcases ref_cases q with rfl | ⟨_, rfl⟩ <;> cases t <;> first | (cases ht; done) | exact ⟨rfl, rfl⟩
/-! what a branch over two longs asks -/
theorem tltL {x y : Int64} (q : x < y) : ifCond.holds .lt (lcmpW x y) = true ∧ ifCond.holds .ge (lcmpW x y) = false ∧ ifCond.holds .gt (lcmpW y x) = true ∧ ifCond.holds .le (lcmpW y x) = false := by
  have a := (lw_lt x y).mpr q
  have b := (lw_gt y x).mpr q
  rw [if0, if0, if0, if0]; exact ⟨(tlt a).1, (tlt a).2.1, (tlt b).2.2.1, (tlt b).2.2.2⟩
theorem fltL {x y : Int64} (q : ¬ x < y) : ifCond.holds .lt (lcmpW x y) = false ∧ ifCond.holds .ge (lcmpW x y) = true ∧ ifCond.holds .gt (lcmpW y x) = false ∧ ifCond.holds .le (lcmpW y x) = true := by
  have a := fun z => q ((lw_lt x y).mp z)
  have b := fun z => q ((lw_gt y x).mp z)
  rw [if0, if0, if0, if0]; exact ⟨(flt a).1, (flt a).2.1, (flt b).2.2.1, (flt b).2.2.2⟩
theorem teqL {x y : Int64} (q : x = y) : ifCond.holds .eq (lcmpW x y) = true ∧ ifCond.holds .ne (lcmpW x y) = false := by
  have a := (lw_eq x y).mpr q
  rw [if0, if0]; exact teq a
theorem feqL {x y : Int64} (q : ¬ x = y) : ifCond.holds .eq (lcmpW x y) = false ∧ ifCond.holds .ne (lcmpW x y) = true := by
  have a := fun z => q ((lw_eq x y).mp z)
  rw [if0, if0]; exact feq a
theorem tlt0 {x y : Int32} (q : x < y) : if_icmp.holds .lt x y = true ∧ if_icmp.holds .ge x y = false ∧ if_icmp.holds .gt y x = true ∧ if_icmp.holds .le y x = false := tlt q
end Own
end Jvm.RoadKit
namespace Jvm.RoadKit
open Sem ClassFile Op Lib Jvm.Stand Jvm.Free Jvm.LawKit
section Own
variable {p : Program} {l : Launch} {e : Env} {R : Room} {s : State} {m : MethodId} {args : Array Value} {below : List Frame} {meth : Method} {c : Code} {Z : State} {a0 : Array Value}
variable {own nm : String} {bytes : ByteArray} {ml n0 K N : Nat} {ret : Option FieldType} {Q : Option Value → Heap → Prop} {h : Heap} {cl sl : Nat} {g g' g'' : JFrame} {pc pc' : Nat} {ls ls' : Array Slot} {st : List Value}
theorem own_selP {y : MethodName} {n : Nat} (wi : (Cond.instantiable y.cls n).before a0 Z = true) (wp : (Cond.privateMethod y).before a0 Z = true) (w2 : (Cond.instanceMethod y).before a0 Z = true) (hy : y.cls ≠ "java/lang/invoke/MethodHandle" ∧ y.cls ≠ "java/lang/invoke/VarHandle") : (Cond.selects y.cls y y).before a0 Z = true := by
  obtain ⟨c, k, hc, hk, -, hniab, -, -⟩ := Cond.instantiable_spec wi
  exact selects_self_of_private hc hk (Bool.or_eq_false_iff.mp hniab).1 (Cond.privateMethod_at wp) w2 hy
theorem OW.callP (C : OC p s m meth c Z own nm bytes ml ret) {i : Nat} {y : MethodName} {bytes' : ByteArray} {ml' W : Nat} {ret' r0 : Option FieldType} {rm : Room} {argsL rest : List Value} {ps : List FieldType} {Q' : Option Value → Heap → Prop} {a : Addr} {Cl : String}
    (w1 : (Cond.methodLink own i y).before a0 Z = true) {nn : Nat} (wi : (Cond.instantiable y.cls nn).before a0 Z = true) (wp : (Cond.privateMethod y).before a0 Z = true) (w2 : (Cond.instanceMethod y).before a0 Z = true) (w3 : (Cond.initialized y.cls).before a0 Z = true) (w4 : (Cond.code y bytes' ml' ret').before a0 Z = true) (hy : y.cls ≠ "java/lang/invoke/MethodHandle" ∧ y.cls ≠ "java/lang/invoke/VarHandle") (E : Exa Z h a Cl)
    (hM : OM l Z y bytes' ml' ret' rm n0 h (.ref a :: argsL).toArray Q' rm.cells rm.slots) (hd : decode bytes pc = .ok (.invokevirtual i, 3)) (hpd : parseMethodDescriptor y.desc = some ⟨ps, r0⟩) (hlen : argsL.length = ps.length) (hst : st = argsL.reverse ++ .ref a :: rest) (hsz : ls.size = ml) (hW : (rest.map fun v => v.category).sum = W)
    (hf : rm.frames + 1 ≤ R.frames) (hlo : W + (ml' + 11) + rm.locals ≤ R.locals) (hcl : cl + rm.cells ≤ R.cells) (hsl : sl + rm.slots ≤ R.slots) (hp : pc + 3 = pc')
    (k : ∀ v h', Q' v h' → OW p l e R s m args below meth c n0 Q K N h' (cl + rm.cells) (sl + rm.slots) (mkF m pc' ls (v.toList ++ rest))) : OW p l e R s m args below meth c n0 Q K N h cl sl (mkF m pc ls st) := fun T locs ⟨X, N0, e0, bc, bs⟩ => by
  subst hp
  obtain ⟨cell, kq, qa, -, -, qd, -⟩ := E
  rw [← e0] at qa
  obtain ⟨v, vm, ⟨T', L', cl', sl'⟩, -, X', ⟨Lc, ⟨hQ, hL⟩, e1, e2, e3⟩, kk⟩ := X.privateBack C.1 C.2.2.2.1 (mv C.2.2.1 w1) (mv C.2.2.1 w2) (mv C.2.2.1 (own_selP wi wp w2 hy)) (Cond.privateMethod_at (args := #[]) (mv C.2.2.1 wp)) (mv C.2.2.1 w4) hy (backOf (W := W) (Q := fun v h L => Q' v h ∧ Fr n0 L) (hM []) C.2.2.1 w4 w3 hf hlo) (g := mkF m pc ls st) rfl (by rw [C.2.2.2.2.1]; exact hsz) (Steps.refl _) qa (fun q z => by rw [z] at qd; cases qd) (argsL := argsL) (rest := rest) (lenOf hpd hlen) hst (by show 2 * 0 + _ ≤ _; omega) (C.d hd) (fun _ _ => ⟨rfl, e0, hcl, hsl⟩)
  dsimp only [Pt.U, Pt.locs, Pt.cells, Pt.slots] at X' e1 e2 e3 kk hQ
  subst e1 e2 e3
  obtain ⟨s₂, o, q, r⟩ := k v _ hQ T' _ ⟨X', Fr.app N0 hL, rfl, hcl, hsl⟩
  exact ⟨s₂, o, kk.trans q, r⟩
end Own
end Jvm.RoadKit
namespace Jvm.Pilot.@@N@@
open Jvm Jvm.ClassFile Sem Op Lib Jvm.Free Jvm.Stand Jvm.LawKit Jvm.RoadKit Bundle Jvm.Pilot.@@N@@.Jvm.D
abbrev HW (a0 : Array Value) (Z : State) : Prop := ∀ d ∈ tables_1, d.before a0 Z = true
theorem w0 {a0 : Array Value} {Z : State} (hw : HW a0 Z) : (Jvm.Cond.constantLong "com/example/planwright/planwright/service/testing/PercentageQuotientKeyPinLaw" (9 : Nat) (9223372036854775807 : Int64)).before a0 Z = true := hw _ (List.mem_of_getElem? (i := 0) rfl)
theorem w1 {a0 : Array Value} {Z : State} (hw : HW a0 Z) : (Jvm.Cond.constantLong "com/example/planwright/planwright/service/testing/PercentageQuotientKeyPinLaw" (11 : Nat) (10000000000000000 : Int64)).before a0 Z = true := hw _ (List.mem_of_getElem? (i := 1) rfl)
theorem w2 {a0 : Array Value} {Z : State} (hw : HW a0 Z) : (Jvm.Cond.constantLong "com/example/planwright/planwright/service/testing/PercentageQuotientKeyPinLaw" (13 : Nat) (99999999999999999 : Int64)).before a0 Z = true := hw _ (List.mem_of_getElem? (i := 2) rfl)
theorem w3 {a0 : Array Value} {Z : State} (hw : HW a0 Z) : (Jvm.Cond.classLink "com/example/planwright/planwright/service/testing/PercentageQuotientKeyPinLaw" (15 : Nat) "com/example/planwright/planwright/service/testing/PercentageQuotient").before a0 Z = true := hw _ (List.mem_of_getElem? (i := 3) rfl)
theorem w4 {a0 : Array Value} {Z : State} (hw : HW a0 Z) : (Jvm.Cond.instantiable "com/example/planwright/planwright/service/testing/PercentageQuotient" (2 : Nat)).before a0 Z = true := hw _ (List.mem_of_getElem? (i := 4) rfl)
theorem w5 {a0 : Array Value} {Z : State} (hw : HW a0 Z) : (Jvm.Cond.initialized "com/example/planwright/planwright/service/testing/PercentageQuotient").before a0 Z = true := hw _ (List.mem_of_getElem? (i := 5) rfl)
theorem w6 {a0 : Array Value} {Z : State} (hw : HW a0 Z) : (Jvm.Cond.methodLink "com/example/planwright/planwright/service/testing/PercentageQuotientKeyPinLaw" (17 : Nat) ({ cls := "com/example/planwright/planwright/service/testing/PercentageQuotient", name := "<init>", desc := "()V" } : Jvm.MethodName)).before a0 Z = true := hw _ (List.mem_of_getElem? (i := 6) rfl)
theorem w7 {a0 : Array Value} {Z : State} (hw : HW a0 Z) : (Jvm.Cond.instanceMethod ({ cls := "com/example/planwright/planwright/service/testing/PercentageQuotient", name := "<init>", desc := "()V" } : Jvm.MethodName)).before a0 Z = true := hw _ (List.mem_of_getElem? (i := 7) rfl)
theorem w8 {a0 : Array Value} {Z : State} (hw : HW a0 Z) : (Jvm.Cond.code ({ cls := "com/example/planwright/planwright/service/testing/PercentageQuotient", name := "<init>", desc := "()V" } : Jvm.MethodName) prog_132_method_1_code (1 : Nat) (Option.none : Option Jvm.ClassFile.FieldType)).before a0 Z = true := hw _ (List.mem_of_getElem? (i := 8) rfl)
theorem w9 {a0 : Array Value} {Z : State} (hw : HW a0 Z) : (Jvm.Cond.methodLink "com/example/planwright/planwright/service/testing/PercentageQuotient" (3 : Nat) ({ cls := "java/lang/Object", name := "<init>", desc := "()V" } : Jvm.MethodName)).before a0 Z = true := hw _ (List.mem_of_getElem? (i := 9) rfl)
theorem w10 {a0 : Array Value} {Z : State} (hw : HW a0 Z) : (Jvm.Cond.instanceMethod ({ cls := "java/lang/Object", name := "<init>", desc := "()V" } : Jvm.MethodName)).before a0 Z = true := hw _ (List.mem_of_getElem? (i := 10) rfl)
theorem w11 {a0 : Array Value} {Z : State} (hw : HW a0 Z) : (Jvm.Cond.code ({ cls := "java/lang/Object", name := "<init>", desc := "()V" } : Jvm.MethodName) object_method_1_code (1 : Nat) (Option.none : Option Jvm.ClassFile.FieldType)).before a0 Z = true := hw _ (List.mem_of_getElem? (i := 11) rfl)
theorem w12 {a0 : Array Value} {Z : State} (hw : HW a0 Z) : (Jvm.Cond.arrayClass Jvm.ClassFile.FieldType.long).before a0 Z = true := hw _ (List.mem_of_getElem? (i := 12) rfl)
theorem w13 {a0 : Array Value} {Z : State} (hw : HW a0 Z) : (Jvm.Cond.fieldLink "com/example/planwright/planwright/service/testing/PercentageQuotient" (9 : Nat) "com/example/planwright/planwright/service/testing/PercentageQuotient" "limbs" "[J").before a0 Z = true := hw _ (List.mem_of_getElem? (i := 13) rfl)
theorem w14 {a0 : Array Value} {Z : State} (hw : HW a0 Z) : (Jvm.Cond.laysFinal "com/example/planwright/planwright/service/testing/PercentageQuotient" "com/example/planwright/planwright/service/testing/PercentageQuotient" "limbs" "[J").before a0 Z = true := hw _ (List.mem_of_getElem? (i := 14) rfl)
theorem w15 {a0 : Array Value} {Z : State} (hw : HW a0 Z) : (Jvm.Cond.methodLink "com/example/planwright/planwright/service/testing/PercentageQuotientKeyPinLaw" (18 : Nat) ({ cls := "com/example/planwright/planwright/service/testing/PercentageQuotient", name := "divide", desc := "(JIJI)Z" } : Jvm.MethodName)).before a0 Z = true := hw _ (List.mem_of_getElem? (i := 15) rfl)
theorem w16 {a0 : Array Value} {Z : State} (hw : HW a0 Z) : (Jvm.Cond.declares ({ cls := "com/example/planwright/planwright/service/testing/PercentageQuotient", name := "divide", desc := "(JIJI)Z" } : Jvm.MethodName)).before a0 Z = true := hw _ (List.mem_of_getElem? (i := 16) rfl)
theorem w17 {a0 : Array Value} {Z : State} (hw : HW a0 Z) : (Jvm.Cond.instanceMethod ({ cls := "com/example/planwright/planwright/service/testing/PercentageQuotient", name := "divide", desc := "(JIJI)Z" } : Jvm.MethodName)).before a0 Z = true := hw _ (List.mem_of_getElem? (i := 17) rfl)
theorem w18 {a0 : Array Value} {Z : State} (hw : HW a0 Z) : (Jvm.Cond.selects "com/example/planwright/planwright/service/testing/PercentageQuotient" ({ cls := "com/example/planwright/planwright/service/testing/PercentageQuotient", name := "divide", desc := "(JIJI)Z" } : Jvm.MethodName) ({ cls := "com/example/planwright/planwright/service/testing/PercentageQuotient", name := "divide", desc := "(JIJI)Z" } : Jvm.MethodName)).before a0 Z = true := hw _ (List.mem_of_getElem? (i := 18) rfl)
theorem w19 {a0 : Array Value} {Z : State} (hw : HW a0 Z) : (Jvm.Cond.code ({ cls := "com/example/planwright/planwright/service/testing/PercentageQuotient", name := "divide", desc := "(JIJI)Z" } : Jvm.MethodName) prog_132_method_3_code (12 : Nat) (Option.some Jvm.ClassFile.FieldType.boolean)).before a0 Z = true := hw _ (List.mem_of_getElem? (i := 19) rfl)
theorem w20 {a0 : Array Value} {Z : State} (hw : HW a0 Z) : (Jvm.Cond.fieldLink "com/example/planwright/planwright/service/testing/PercentageQuotient" (30 : Nat) "com/example/planwright/planwright/service/testing/PercentageQuotient" "POWERS_OF_TEN" "[J").before a0 Z = true := hw _ (List.mem_of_getElem? (i := 20) rfl)
theorem w21 {a0 : Array Value} {Z : State} (hw : HW a0 Z) : (Jvm.Cond.laysStatic "com/example/planwright/planwright/service/testing/PercentageQuotient" "POWERS_OF_TEN" "[J").before a0 Z = true := hw _ (List.mem_of_getElem? (i := 21) rfl)
theorem w22 {a0 : Array Value} {Z : State} (hw : HW a0 Z) : (Jvm.Cond.constantLong "com/example/planwright/planwright/service/testing/PercentageQuotient" (33 : Nat) (100 : Int64)).before a0 Z = true := hw _ (List.mem_of_getElem? (i := 22) rfl)
theorem w23 {a0 : Array Value} {Z : State} (hw : HW a0 Z) : (Jvm.Cond.methodLink "com/example/planwright/planwright/service/testing/PercentageQuotient" (35 : Nat) ({ cls := "com/example/planwright/planwright/service/testing/PercentageQuotient", name := "workOut", desc := "(JJ)I" } : Jvm.MethodName)).before a0 Z = true := hw _ (List.mem_of_getElem? (i := 23) rfl)
theorem w24 {a0 : Array Value} {Z : State} (hw : HW a0 Z) : (Jvm.Cond.instanceMethod ({ cls := "com/example/planwright/planwright/service/testing/PercentageQuotient", name := "workOut", desc := "(JJ)I" } : Jvm.MethodName)).before a0 Z = true := hw _ (List.mem_of_getElem? (i := 24) rfl)
theorem w25 {a0 : Array Value} {Z : State} (hw : HW a0 Z) : (Jvm.Cond.privateMethod ({ cls := "com/example/planwright/planwright/service/testing/PercentageQuotient", name := "workOut", desc := "(JJ)I" } : Jvm.MethodName)).before a0 Z = true := hw _ (List.mem_of_getElem? (i := 25) rfl)
theorem w26 {a0 : Array Value} {Z : State} (hw : HW a0 Z) : (Jvm.Cond.code ({ cls := "com/example/planwright/planwright/service/testing/PercentageQuotient", name := "workOut", desc := "(JJ)I" } : Jvm.MethodName) prog_132_method_10_code (17 : Nat) (Option.some Jvm.ClassFile.FieldType.int)).before a0 Z = true := hw _ (List.mem_of_getElem? (i := 26) rfl)
theorem w27 {a0 : Array Value} {Z : State} (hw : HW a0 Z) : (Jvm.Cond.constantLong "com/example/planwright/planwright/service/testing/PercentageQuotient" (58 : Nat) (1000000000 : Int64)).before a0 Z = true := hw _ (List.mem_of_getElem? (i := 27) rfl)
theorem w28 {a0 : Array Value} {Z : State} (hw : HW a0 Z) : (Jvm.Cond.methodLink "com/example/planwright/planwright/service/testing/PercentageQuotient" (54 : Nat) ({ cls := "com/example/planwright/planwright/service/testing/PercentageQuotient", name := "digits", desc := "(J)I" } : Jvm.MethodName)).before a0 Z = true := hw _ (List.mem_of_getElem? (i := 28) rfl)
theorem w29 {a0 : Array Value} {Z : State} (hw : HW a0 Z) : (Jvm.Cond.static ({ cls := "com/example/planwright/planwright/service/testing/PercentageQuotient", name := "digits", desc := "(J)I" } : Jvm.MethodName)).before a0 Z = true := hw _ (List.mem_of_getElem? (i := 29) rfl)
theorem w30 {a0 : Array Value} {Z : State} (hw : HW a0 Z) : (Jvm.Cond.code ({ cls := "com/example/planwright/planwright/service/testing/PercentageQuotient", name := "digits", desc := "(J)I" } : Jvm.MethodName) prog_132_method_14_code (3 : Nat) (Option.some Jvm.ClassFile.FieldType.int)).before a0 Z = true := hw _ (List.mem_of_getElem? (i := 30) rfl)
theorem w31 {a0 : Array Value} {Z : State} (hw : HW a0 Z) : (Jvm.Cond.methodLink "com/example/planwright/planwright/service/testing/PercentageQuotient" (104 : Nat) ({ cls := "java/lang/Math", name := "min", desc := "(II)I" } : Jvm.MethodName)).before a0 Z = true := hw _ (List.mem_of_getElem? (i := 31) rfl)
theorem w32 {a0 : Array Value} {Z : State} (hw : HW a0 Z) : (Jvm.Cond.static ({ cls := "java/lang/Math", name := "min", desc := "(II)I" } : Jvm.MethodName)).before a0 Z = true := hw _ (List.mem_of_getElem? (i := 32) rfl)
theorem w33 {a0 : Array Value} {Z : State} (hw : HW a0 Z) : (Jvm.Cond.initialized "java/lang/Math").before a0 Z = true := hw _ (List.mem_of_getElem? (i := 33) rfl)
theorem w34 {a0 : Array Value} {Z : State} (hw : HW a0 Z) : (Jvm.Cond.code ({ cls := "java/lang/Math", name := "min", desc := "(II)I" } : Jvm.MethodName) jdk_29_method_69_code (2 : Nat) (Option.some Jvm.ClassFile.FieldType.int)).before a0 Z = true := hw _ (List.mem_of_getElem? (i := 34) rfl)
theorem w35 {a0 : Array Value} {Z : State} (hw : HW a0 Z) : (Jvm.Cond.fieldLink "com/example/planwright/planwright/service/testing/PercentageQuotient" (108 : Nat) "com/example/planwright/planwright/model/WorkingPrecision" "DIGITS" "I").before a0 Z = true := hw _ (List.mem_of_getElem? (i := 35) rfl)
theorem w36 {a0 : Array Value} {Z : State} (hw : HW a0 Z) : (Jvm.Cond.initialized "com/example/planwright/planwright/model/WorkingPrecision").before a0 Z = true := hw _ (List.mem_of_getElem? (i := 36) rfl)
theorem w37 {a0 : Array Value} {Z : State} (hw : HW a0 Z) : (Jvm.Cond.laysStatic "com/example/planwright/planwright/model/WorkingPrecision" "DIGITS" "I").before a0 Z = true := hw _ (List.mem_of_getElem? (i := 37) rfl)
theorem w38 {a0 : Array Value} {Z : State} (hw : HW a0 Z) : (Jvm.Cond.methodLink "com/example/planwright/planwright/service/testing/PercentageQuotient" (113 : Nat) ({ cls := "com/example/planwright/planwright/service/testing/PercentageQuotient", name := "shiftIn", desc := "(JJ)V" } : Jvm.MethodName)).before a0 Z = true := hw _ (List.mem_of_getElem? (i := 38) rfl)
theorem w39 {a0 : Array Value} {Z : State} (hw : HW a0 Z) : (Jvm.Cond.instanceMethod ({ cls := "com/example/planwright/planwright/service/testing/PercentageQuotient", name := "shiftIn", desc := "(JJ)V" } : Jvm.MethodName)).before a0 Z = true := hw _ (List.mem_of_getElem? (i := 39) rfl)
theorem w40 {a0 : Array Value} {Z : State} (hw : HW a0 Z) : (Jvm.Cond.privateMethod ({ cls := "com/example/planwright/planwright/service/testing/PercentageQuotient", name := "shiftIn", desc := "(JJ)V" } : Jvm.MethodName)).before a0 Z = true := hw _ (List.mem_of_getElem? (i := 40) rfl)
theorem w41 {a0 : Array Value} {Z : State} (hw : HW a0 Z) : (Jvm.Cond.code ({ cls := "com/example/planwright/planwright/service/testing/PercentageQuotient", name := "shiftIn", desc := "(JJ)V" } : Jvm.MethodName) prog_132_method_11_code (10 : Nat) (Option.none : Option Jvm.ClassFile.FieldType)).before a0 Z = true := hw _ (List.mem_of_getElem? (i := 41) rfl)
theorem w42 {a0 : Array Value} {Z : State} (hw : HW a0 Z) : (Jvm.Cond.constantLong "com/example/planwright/planwright/service/testing/PercentageQuotient" (41 : Nat) (-2147483648 : Int64)).before a0 Z = true := hw _ (List.mem_of_getElem? (i := 42) rfl)
theorem w43 {a0 : Array Value} {Z : State} (hw : HW a0 Z) : (Jvm.Cond.constantLong "com/example/planwright/planwright/service/testing/PercentageQuotient" (43 : Nat) (2147483647 : Int64)).before a0 Z = true := hw _ (List.mem_of_getElem? (i := 43) rfl)
theorem w44 {a0 : Array Value} {Z : State} (hw : HW a0 Z) : (Jvm.Cond.fieldLink "com/example/planwright/planwright/service/testing/PercentageQuotient" (45 : Nat) "com/example/planwright/planwright/service/testing/PercentageQuotient" "scale" "I").before a0 Z = true := hw _ (List.mem_of_getElem? (i := 44) rfl)
theorem w45 {a0 : Array Value} {Z : State} (hw : HW a0 Z) : (Jvm.Cond.lays "com/example/planwright/planwright/service/testing/PercentageQuotient" "com/example/planwright/planwright/service/testing/PercentageQuotient" "scale" "I").before a0 Z = true := hw _ (List.mem_of_getElem? (i := 45) rfl)
theorem w46 {a0 : Array Value} {Z : State} (hw : HW a0 Z) : (Jvm.Cond.methodLink "com/example/planwright/planwright/service/testing/PercentageQuotientKeyPinLaw" (22 : Nat) ({ cls := "com/example/planwright/planwright/service/testing/PercentageQuotient", name := "limb", desc := "(I)J" } : Jvm.MethodName)).before a0 Z = true := hw _ (List.mem_of_getElem? (i := 46) rfl)
theorem w47 {a0 : Array Value} {Z : State} (hw : HW a0 Z) : (Jvm.Cond.declares ({ cls := "com/example/planwright/planwright/service/testing/PercentageQuotient", name := "limb", desc := "(I)J" } : Jvm.MethodName)).before a0 Z = true := hw _ (List.mem_of_getElem? (i := 47) rfl)
theorem w48 {a0 : Array Value} {Z : State} (hw : HW a0 Z) : (Jvm.Cond.instanceMethod ({ cls := "com/example/planwright/planwright/service/testing/PercentageQuotient", name := "limb", desc := "(I)J" } : Jvm.MethodName)).before a0 Z = true := hw _ (List.mem_of_getElem? (i := 48) rfl)
theorem w49 {a0 : Array Value} {Z : State} (hw : HW a0 Z) : (Jvm.Cond.selects "com/example/planwright/planwright/service/testing/PercentageQuotient" ({ cls := "com/example/planwright/planwright/service/testing/PercentageQuotient", name := "limb", desc := "(I)J" } : Jvm.MethodName) ({ cls := "com/example/planwright/planwright/service/testing/PercentageQuotient", name := "limb", desc := "(I)J" } : Jvm.MethodName)).before a0 Z = true := hw _ (List.mem_of_getElem? (i := 49) rfl)
theorem w50 {a0 : Array Value} {Z : State} (hw : HW a0 Z) : (Jvm.Cond.code ({ cls := "com/example/planwright/planwright/service/testing/PercentageQuotient", name := "limb", desc := "(I)J" } : Jvm.MethodName) prog_132_method_5_code (2 : Nat) (Option.some Jvm.ClassFile.FieldType.long)).before a0 Z = true := hw _ (List.mem_of_getElem? (i := 50) rfl)
theorem w51 {a0 : Array Value} {Z : State} (hw : HW a0 Z) : (Jvm.Cond.methodLink "com/example/planwright/planwright/service/testing/PercentageQuotientKeyPinLaw" (26 : Nat) ({ cls := "com/example/planwright/planwright/service/testing/PercentageQuotient", name := "scale", desc := "()I" } : Jvm.MethodName)).before a0 Z = true := hw _ (List.mem_of_getElem? (i := 51) rfl)
theorem w52 {a0 : Array Value} {Z : State} (hw : HW a0 Z) : (Jvm.Cond.declares ({ cls := "com/example/planwright/planwright/service/testing/PercentageQuotient", name := "scale", desc := "()I" } : Jvm.MethodName)).before a0 Z = true := hw _ (List.mem_of_getElem? (i := 52) rfl)
theorem w53 {a0 : Array Value} {Z : State} (hw : HW a0 Z) : (Jvm.Cond.instanceMethod ({ cls := "com/example/planwright/planwright/service/testing/PercentageQuotient", name := "scale", desc := "()I" } : Jvm.MethodName)).before a0 Z = true := hw _ (List.mem_of_getElem? (i := 53) rfl)
theorem w54 {a0 : Array Value} {Z : State} (hw : HW a0 Z) : (Jvm.Cond.selects "com/example/planwright/planwright/service/testing/PercentageQuotient" ({ cls := "com/example/planwright/planwright/service/testing/PercentageQuotient", name := "scale", desc := "()I" } : Jvm.MethodName) ({ cls := "com/example/planwright/planwright/service/testing/PercentageQuotient", name := "scale", desc := "()I" } : Jvm.MethodName)).before a0 Z = true := hw _ (List.mem_of_getElem? (i := 54) rfl)
theorem w55 {a0 : Array Value} {Z : State} (hw : HW a0 Z) : (Jvm.Cond.code ({ cls := "com/example/planwright/planwright/service/testing/PercentageQuotient", name := "scale", desc := "()I" } : Jvm.MethodName) prog_132_method_6_code (1 : Nat) (Option.some Jvm.ClassFile.FieldType.int)).before a0 Z = true := hw _ (List.mem_of_getElem? (i := 55) rfl)
theorem w56 {a0 : Array Value} {Z : State} (hw : HW a0 Z) : (Jvm.Cond.methodLink "com/example/planwright/planwright/service/testing/PercentageQuotientKeyPinLaw" (30 : Nat) ({ cls := "com/example/planwright/planwright/service/testing/PercentageQuotient", name := "key", desc := "(I)J" } : Jvm.MethodName)).before a0 Z = true := hw _ (List.mem_of_getElem? (i := 56) rfl)
theorem w57 {a0 : Array Value} {Z : State} (hw : HW a0 Z) : (Jvm.Cond.declares ({ cls := "com/example/planwright/planwright/service/testing/PercentageQuotient", name := "key", desc := "(I)J" } : Jvm.MethodName)).before a0 Z = true := hw _ (List.mem_of_getElem? (i := 57) rfl)
theorem w58 {a0 : Array Value} {Z : State} (hw : HW a0 Z) : (Jvm.Cond.instanceMethod ({ cls := "com/example/planwright/planwright/service/testing/PercentageQuotient", name := "key", desc := "(I)J" } : Jvm.MethodName)).before a0 Z = true := hw _ (List.mem_of_getElem? (i := 58) rfl)
theorem w59 {a0 : Array Value} {Z : State} (hw : HW a0 Z) : (Jvm.Cond.selects "com/example/planwright/planwright/service/testing/PercentageQuotient" ({ cls := "com/example/planwright/planwright/service/testing/PercentageQuotient", name := "key", desc := "(I)J" } : Jvm.MethodName) ({ cls := "com/example/planwright/planwright/service/testing/PercentageQuotient", name := "key", desc := "(I)J" } : Jvm.MethodName)).before a0 Z = true := hw _ (List.mem_of_getElem? (i := 59) rfl)
theorem w60 {a0 : Array Value} {Z : State} (hw : HW a0 Z) : (Jvm.Cond.code ({ cls := "com/example/planwright/planwright/service/testing/PercentageQuotient", name := "key", desc := "(I)J" } : Jvm.MethodName) prog_132_method_9_code (14 : Nat) (Option.some Jvm.ClassFile.FieldType.long)).before a0 Z = true := hw _ (List.mem_of_getElem? (i := 60) rfl)
theorem w61 {a0 : Array Value} {Z : State} (hw : HW a0 Z) : (Jvm.Cond.constantLong "com/example/planwright/planwright/service/testing/PercentageQuotient" (96 : Nat) (37 : Int64)).before a0 Z = true := hw _ (List.mem_of_getElem? (i := 61) rfl)
theorem w62 {a0 : Array Value} {Z : State} (hw : HW a0 Z) : (Jvm.Cond.methodLink "com/example/planwright/planwright/service/testing/PercentageQuotientKeyPinLaw" (33 : Nat) ({ cls := "com/example/planwright/planwright/service/testing/PercentageQuotientKeyPinLaw", name := "expected", desc := "(JJJJJ)J" } : Jvm.MethodName)).before a0 Z = true := hw _ (List.mem_of_getElem? (i := 62) rfl)
theorem w63 {a0 : Array Value} {Z : State} (hw : HW a0 Z) : (Jvm.Cond.static ({ cls := "com/example/planwright/planwright/service/testing/PercentageQuotientKeyPinLaw", name := "expected", desc := "(JJJJJ)J" } : Jvm.MethodName)).before a0 Z = true := hw _ (List.mem_of_getElem? (i := 63) rfl)
theorem w64 {a0 : Array Value} {Z : State} (hw : HW a0 Z) : (Jvm.Cond.initialized "com/example/planwright/planwright/service/testing/PercentageQuotientKeyPinLaw").before a0 Z = true := hw _ (List.mem_of_getElem? (i := 64) rfl)
theorem w65 {a0 : Array Value} {Z : State} (hw : HW a0 Z) : (Jvm.Cond.code ({ cls := "com/example/planwright/planwright/service/testing/PercentageQuotientKeyPinLaw", name := "expected", desc := "(JJJJJ)J" } : Jvm.MethodName) method_5_code (29 : Nat) (Option.some Jvm.ClassFile.FieldType.long)).before a0 Z = true := hw _ (List.mem_of_getElem? (i := 65) rfl)
theorem w66 {a0 : Array Value} {Z : State} (hw : HW a0 Z) : (Jvm.Cond.constantLong "com/example/planwright/planwright/service/testing/PercentageQuotientKeyPinLaw" (57 : Nat) (-36 : Int64)).before a0 Z = true := hw _ (List.mem_of_getElem? (i := 66) rfl)
theorem w67 {a0 : Array Value} {Z : State} (hw : HW a0 Z) : (Jvm.Cond.constantLong "com/example/planwright/planwright/service/testing/PercentageQuotient" (98 : Nat) (18 : Int64)).before a0 Z = true := hw _ (List.mem_of_getElem? (i := 67) rfl)
theorem w68 {a0 : Array Value} {Z : State} (hw : HW a0 Z) : (Jvm.Cond.constantLong "com/example/planwright/planwright/service/testing/PercentageQuotient" (100 : Nat) (9223372036854775807 : Int64)).before a0 Z = true := hw _ (List.mem_of_getElem? (i := 68) rfl)
theorem w69 {a0 : Array Value} {Z : State} (hw : HW a0 Z) : (Jvm.Cond.constantLong "com/example/planwright/planwright/service/testing/PercentageQuotientKeyPinLaw" (59 : Nat) (19 : Int64)).before a0 Z = true := hw _ (List.mem_of_getElem? (i := 69) rfl)
theorem w70 {a0 : Array Value} {Z : State} (hw : HW a0 Z) : (Jvm.Cond.constantLong "com/example/planwright/planwright/service/testing/PercentageQuotientKeyPinLaw" (61 : Nat) (36 : Int64)).before a0 Z = true := hw _ (List.mem_of_getElem? (i := 70) rfl)
theorem w71 {a0 : Array Value} {Z : State} (hw : HW a0 Z) : (Jvm.Cond.constantLong "com/example/planwright/planwright/service/testing/PercentageQuotientKeyPinLaw" (63 : Nat) (9 : Int64)).before a0 Z = true := hw _ (List.mem_of_getElem? (i := 71) rfl)
theorem w72 {a0 : Array Value} {Z : State} (hw : HW a0 Z) : (Jvm.Cond.methodLink "com/example/planwright/planwright/service/testing/PercentageQuotientKeyPinLaw" (65 : Nat) ({ cls := "com/example/planwright/planwright/service/testing/PercentageQuotientKeyPinLaw", name := "pow10", desc := "(I)J" } : Jvm.MethodName)).before a0 Z = true := hw _ (List.mem_of_getElem? (i := 72) rfl)
theorem w73 {a0 : Array Value} {Z : State} (hw : HW a0 Z) : (Jvm.Cond.static ({ cls := "com/example/planwright/planwright/service/testing/PercentageQuotientKeyPinLaw", name := "pow10", desc := "(I)J" } : Jvm.MethodName)).before a0 Z = true := hw _ (List.mem_of_getElem? (i := 73) rfl)
theorem w74 {a0 : Array Value} {Z : State} (hw : HW a0 Z) : (Jvm.Cond.code ({ cls := "com/example/planwright/planwright/service/testing/PercentageQuotientKeyPinLaw", name := "pow10", desc := "(I)J" } : Jvm.MethodName) method_3_code (2 : Nat) (Option.some Jvm.ClassFile.FieldType.long)).before a0 Z = true := hw _ (List.mem_of_getElem? (i := 74) rfl)
theorem w75 {a0 : Array Value} {Z : State} (hw : HW a0 Z) : (Jvm.Cond.constantLong "com/example/planwright/planwright/service/testing/PercentageQuotientKeyPinLaw" (39 : Nat) (10 : Int64)).before a0 Z = true := hw _ (List.mem_of_getElem? (i := 75) rfl)
theorem w76 {a0 : Array Value} {Z : State} (hw : HW a0 Z) : (Jvm.Cond.constantLong "com/example/planwright/planwright/service/testing/PercentageQuotientKeyPinLaw" (41 : Nat) (100 : Int64)).before a0 Z = true := hw _ (List.mem_of_getElem? (i := 76) rfl)
theorem w77 {a0 : Array Value} {Z : State} (hw : HW a0 Z) : (Jvm.Cond.constantLong "com/example/planwright/planwright/service/testing/PercentageQuotientKeyPinLaw" (43 : Nat) (1000 : Int64)).before a0 Z = true := hw _ (List.mem_of_getElem? (i := 77) rfl)
theorem w78 {a0 : Array Value} {Z : State} (hw : HW a0 Z) : (Jvm.Cond.constantLong "com/example/planwright/planwright/service/testing/PercentageQuotientKeyPinLaw" (45 : Nat) (10000 : Int64)).before a0 Z = true := hw _ (List.mem_of_getElem? (i := 78) rfl)
theorem w79 {a0 : Array Value} {Z : State} (hw : HW a0 Z) : (Jvm.Cond.constantLong "com/example/planwright/planwright/service/testing/PercentageQuotientKeyPinLaw" (47 : Nat) (100000 : Int64)).before a0 Z = true := hw _ (List.mem_of_getElem? (i := 79) rfl)
theorem w80 {a0 : Array Value} {Z : State} (hw : HW a0 Z) : (Jvm.Cond.constantLong "com/example/planwright/planwright/service/testing/PercentageQuotientKeyPinLaw" (49 : Nat) (1000000 : Int64)).before a0 Z = true := hw _ (List.mem_of_getElem? (i := 80) rfl)
theorem w81 {a0 : Array Value} {Z : State} (hw : HW a0 Z) : (Jvm.Cond.constantLong "com/example/planwright/planwright/service/testing/PercentageQuotientKeyPinLaw" (51 : Nat) (10000000 : Int64)).before a0 Z = true := hw _ (List.mem_of_getElem? (i := 81) rfl)
theorem w82 {a0 : Array Value} {Z : State} (hw : HW a0 Z) : (Jvm.Cond.constantLong "com/example/planwright/planwright/service/testing/PercentageQuotientKeyPinLaw" (53 : Nat) (100000000 : Int64)).before a0 Z = true := hw _ (List.mem_of_getElem? (i := 82) rfl)
theorem w83 {a0 : Array Value} {Z : State} (hw : HW a0 Z) : (Jvm.Cond.constantLong "com/example/planwright/planwright/service/testing/PercentageQuotientKeyPinLaw" (55 : Nat) (1000000000 : Int64)).before a0 Z = true := hw _ (List.mem_of_getElem? (i := 83) rfl)
theorem w84 {a0 : Array Value} {Z : State} (hw : HW a0 Z) : (Jvm.Cond.methodLink "com/example/planwright/planwright/service/testing/PercentageQuotientKeyPinLaw" (68 : Nat) ({ cls := "com/example/planwright/planwright/service/testing/PercentageQuotientKeyPinLaw", name := "at", desc := "([JI)J" } : Jvm.MethodName)).before a0 Z = true := hw _ (List.mem_of_getElem? (i := 84) rfl)
theorem w85 {a0 : Array Value} {Z : State} (hw : HW a0 Z) : (Jvm.Cond.static ({ cls := "com/example/planwright/planwright/service/testing/PercentageQuotientKeyPinLaw", name := "at", desc := "([JI)J" } : Jvm.MethodName)).before a0 Z = true := hw _ (List.mem_of_getElem? (i := 85) rfl)
theorem w86 {a0 : Array Value} {Z : State} (hw : HW a0 Z) : (Jvm.Cond.code ({ cls := "com/example/planwright/planwright/service/testing/PercentageQuotientKeyPinLaw", name := "at", desc := "([JI)J" } : Jvm.MethodName) method_4_code (2 : Nat) (Option.some Jvm.ClassFile.FieldType.long)).before a0 Z = true := hw _ (List.mem_of_getElem? (i := 86) rfl)
theorem w87 {a0 : Array Value} {Z : State} (hw : HW a0 Z) : (Jvm.Cond.constantLong "com/example/planwright/planwright/service/testing/PercentageQuotientKeyPinLaw" (76 : Nat) (1000000000000000000 : Int64)).before a0 Z = true := hw _ (List.mem_of_getElem? (i := 87) rfl)
theorem w88 {a0 : Array Value} {Z : State} (hw : HW a0 Z) : (Jvm.Cond.constantLong "com/example/planwright/planwright/service/testing/PercentageQuotient" (117 : Nat) (10 : Int64)).before a0 Z = true := hw _ (List.mem_of_getElem? (i := 88) rfl)
theorem w89 {a0 : Array Value} {Z : State} (hw : HW a0 Z) : (Jvm.Cond.methodLink "com/example/planwright/planwright/service/testing/PercentageQuotient" (119 : Nat) ({ cls := "com/example/planwright/planwright/service/testing/PercentageQuotient", name := "shiftOut", desc := "(J)V" } : Jvm.MethodName)).before a0 Z = true := hw _ (List.mem_of_getElem? (i := 89) rfl)
theorem w90 {a0 : Array Value} {Z : State} (hw : HW a0 Z) : (Jvm.Cond.instanceMethod ({ cls := "com/example/planwright/planwright/service/testing/PercentageQuotient", name := "shiftOut", desc := "(J)V" } : Jvm.MethodName)).before a0 Z = true := hw _ (List.mem_of_getElem? (i := 90) rfl)
theorem w91 {a0 : Array Value} {Z : State} (hw : HW a0 Z) : (Jvm.Cond.privateMethod ({ cls := "com/example/planwright/planwright/service/testing/PercentageQuotient", name := "shiftOut", desc := "(J)V" } : Jvm.MethodName)).before a0 Z = true := hw _ (List.mem_of_getElem? (i := 91) rfl)
theorem w92 {a0 : Array Value} {Z : State} (hw : HW a0 Z) : (Jvm.Cond.code ({ cls := "com/example/planwright/planwright/service/testing/PercentageQuotient", name := "shiftOut", desc := "(J)V" } : Jvm.MethodName) prog_132_method_12_code (8 : Nat) (Option.none : Option Jvm.ClassFile.FieldType)).before a0 Z = true := hw _ (List.mem_of_getElem? (i := 92) rfl)
theorem w93 {a0 : Array Value} {Z : State} (hw : HW a0 Z) : (Jvm.Cond.constantLong "com/example/planwright/planwright/service/testing/PercentageQuotient" (102 : Nat) (-18 : Int64)).before a0 Z = true := hw _ (List.mem_of_getElem? (i := 93) rfl)
theorem w94 {a0 : Array Value} {Z : State} (hw : HW a0 Z) : (Jvm.Cond.constantLong "com/example/planwright/planwright/service/testing/PercentageQuotient" (123 : Nat) (2 : Int64)).before a0 Z = true := hw _ (List.mem_of_getElem? (i := 94) rfl)
theorem w95 {a0 : Array Value} {Z : State} (hw : HW a0 Z) : (Jvm.Cond.constantLong "com/example/planwright/planwright/service/testing/PercentageQuotientKeyPinLaw" (72 : Nat) (223372036 : Int64)).before a0 Z = true := hw _ (List.mem_of_getElem? (i := 95) rfl)
theorem w96 {a0 : Array Value} {Z : State} (hw : HW a0 Z) : (Jvm.Cond.constantLong "com/example/planwright/planwright/service/testing/PercentageQuotientKeyPinLaw" (74 : Nat) (854775807 : Int64)).before a0 Z = true := hw _ (List.mem_of_getElem? (i := 96) rfl)
theorem pd_0 : parseMethodDescriptor "(J)V" = some ⟨[.long], none⟩ := by decide +kernel
theorem pd_1 : parseMethodDescriptor "(JJ)V" = some ⟨[.long, .long], none⟩ := by decide +kernel
theorem pd_2 : parseMethodDescriptor "(II)I" = some ⟨[.int, .int], some .int⟩ := by decide +kernel
theorem pd_3 : parseMethodDescriptor "(J)I" = some ⟨[.long], some .int⟩ := by decide +kernel
theorem pd_4 : parseMethodDescriptor "(JJ)I" = some ⟨[.long, .long], some .int⟩ := by decide +kernel
theorem pd_5 : parseMethodDescriptor "(I)J" = some ⟨[.int], some .long⟩ := by decide +kernel
theorem pd_6 : parseMethodDescriptor "([JI)J" = some ⟨[(.array .long), .int], some .long⟩ := by decide +kernel
theorem pd_7 : parseMethodDescriptor "()V" = some ⟨[], none⟩ := by decide +kernel
theorem pd_8 : parseMethodDescriptor "(JIJI)Z" = some ⟨[.long, .int, .long, .int], some .boolean⟩ := by decide +kernel
theorem pd_9 : parseMethodDescriptor "()I" = some ⟨[], some .int⟩ := by decide +kernel
theorem pd_10 : parseMethodDescriptor "(JJJJJ)J" = some ⟨[.long, .long, .long, .long, .long], some .long⟩ := by decide +kernel
theorem pn_0 : plainName "com/example/planwright/planwright/service/testing/PercentageQuotient" = true := by first | (simp [plainName, overriddenIn]; done) | decide +kernel
theorem pn_1 : plainName "com/example/planwright/planwright/service/testing/PercentageQuotientKeyPinLaw" = true := by first | (simp [plainName, overriddenIn]; done) | decide +kernel
def MX : Nat := 9223372036854775807
def SP (V : Nat) (e : Int) : Nat := min (if 0 ≤ e then V * 10 ^ e.toNat else V / 10 ^ (-e).toNat) MX
def R9 (x : Int64) : Prop := 0 ≤ x.toInt ∧ x.toInt < 1000000000
theorem R9.nat {x : Int64} (h : R9 x) : ∃ X : Nat, x.toInt = X ∧ X < 1000000000 := ⟨x.toInt.toNat, by have := h.1; omega, by have := h.1; have := h.2; omega⟩
theorem n_add {x y : Int64} {X Y : Nat} (hx : x.toInt = X) (hy : y.toInt = Y) (hb : X + Y ≤ MX) : (x + y).toInt = ((X + Y : Nat) : Int) := by
  have h1 := c_ladd x y
  have h2 := rng64 (x + y)
  unfold MX at hb
  omega
theorem n_sub {x y : Int64} {X Y : Nat} (hx : x.toInt = X) (hy : y.toInt = Y) (hb : Y ≤ X) (hm : X ≤ MX) : (x - y).toInt = ((X - Y : Nat) : Int) := by
  have h1 := c_lsub x y
  have h2 := rng64 (x - y)
  unfold MX at hm
  omega
theorem n_mul {x y : Int64} {X Y : Nat} (hx : x.toInt = X) (hy : y.toInt = Y) (hb : X * Y ≤ MX) : (x * y).toInt = ((X * Y : Nat) : Int) := by
  have h1 := c_lmul x y
  have h2 := rng64 (x * y)
  rw [hx, hy] at h1
  have h3 : (X : Int) * (Y : Int) = ((X * Y : Nat) : Int) := (Int.natCast_mul X Y).symm
  rw [h3] at h1
  unfold MX at hb
  generalize X * Y = P at *
  omega
theorem n_rem {x y : Int64} {X Y : Nat} (hx : x.toInt = X) (hy : y.toInt = Y) : (x % y).toInt = ((X % Y : Nat) : Int) := by
  rw [Int64.toInt_mod, hx, hy, Int.tmod_eq_emod_of_nonneg (by omega)]; exact (Int.natCast_emod X Y).symm
theorem n_div {x y : Int64} {X Y : Nat} (hx : x.toInt = X) (hy : y.toInt = Y) : (x / y).toInt = ((X / Y : Nat) : Int) := by
  have hne : y ≠ -1 := fun q => by
    subst q
    have e : (-1 : Int64).toInt = -1 := by decide
    rw [e] at hy; omega
  rw [(c_ldiv x y Y hy hne).1 (by omega), hx]
  exact (Int.natCast_ediv X Y).symm
theorem lt_n {x y : Int64} {X Y : Nat} (hx : x.toInt = X) (hy : y.toInt = Y) : (x < y) ↔ X < Y := by
  rw [Int64.lt_iff_toInt_lt, hx, hy]; omega
theorem eq_n {x y : Int64} {X Y : Nat} (hx : x.toInt = X) (hy : y.toInt = Y) : (x = y) ↔ X = Y := by
  rw [← Int64.toInt_inj, hx, hy]; omega
theorem or_n (x y : Int64) : (x ||| y = 0) ↔ (x = 0 ∧ y = 0) := by
  constructor
  · intro h
    have h' : x.toBitVec ||| y.toBitVec = 0#64 := congrArg Int64.toBitVec h
    have hb : ∀ i : Nat, x.toBitVec.getLsbD i = false ∧ y.toBitVec.getLsbD i = false := fun i => by
      have := congrArg (fun z => BitVec.getLsbD z i) h'
      simpa using this
    refine ⟨?_, ?_⟩
    · apply Int64.toBitVec_inj.mp
      apply BitVec.eq_of_getLsbD_eq
      intro i hi
      simpa using (hb i).1
    · apply Int64.toBitVec_inj.mp
      apply BitVec.eq_of_getLsbD_eq
      intro i hi
      simpa using (hb i).2
  · rintro ⟨rfl, rfl⟩; rfl
/-! the two answers, in plain numbers -/
theorem sp_pos (V k : Nat) : SP V (k : Int) = min (V * 10 ^ k) MX := by unfold SP; rw [if_pos (by omega), Int.toNat_natCast]
theorem sp_neg (V k : Nat) : SP V (-(k : Int)) = min (V / 10 ^ k) MX := by
  by_cases h : k = 0
  · subst h; unfold SP; simp
  · unfold SP; rw [if_neg (by omega), Int.neg_neg, Int.toNat_natCast]
theorem p10_le {a b : Nat} (h : a ≤ b) : 10 ^ a ≤ 10 ^ b := Nat.pow_le_pow_right (by decide) h
theorem sp_low {V : Nat} {e : Int} (hV : V < 10 ^ 36) (he : e ≤ -36) : SP V e = 0 := by
  obtain ⟨k, rfl⟩ : ∃ k : Nat, e = -(k : Int) := ⟨(-e).toNat, by omega⟩
  rw [sp_neg, Nat.div_eq_of_lt (Nat.lt_of_lt_of_le hV (p10_le (by omega)))]
  simp
theorem sp_zero (e : Int) : SP 0 e = 0 := by unfold SP; split <;> simp
theorem sp_high {V : Nat} {e : Int} (hV : 1 ≤ V) (he : 19 ≤ e) : SP V e = MX := by
  obtain ⟨k, rfl⟩ : ∃ k : Nat, e = (k : Int) := ⟨e.toNat, by omega⟩
  rw [sp_pos]
  have h1 : 10 ^ 19 ≤ 10 ^ k := p10_le (by omega)
  have h2 : 1 * 10 ^ k ≤ V * 10 ^ k := Nat.mul_le_mul_right _ hV
  have h3 : MX < 10 ^ 19 := by decide
  omega
theorem sp_mid {L H s : Nat} (hL : L < 10 ^ 18) (hH : H < 10 ^ 18) (h1 : 18 ≤ s) : SP (L + H * 10 ^ 18) (-(s : Int)) = H / 10 ^ (s - 18) := by
  rw [sp_neg]
  have e : 10 ^ s = 10 ^ 18 * 10 ^ (s - 18) := by rw [← Nat.pow_add]; congr 1; omega
  rw [e, ← Nat.div_div_eq_div_mul]
  have e2 : (L + H * 10 ^ 18) / 10 ^ 18 = H := by omega
  rw [e2]
  have : H / 10 ^ (s - 18) ≤ H := Nat.div_le_self _ _
  have h3 : 10 ^ 18 < MX := by decide
  omega
theorem sp_frac {L H s : Nat} (h1 : s ≤ 18) : SP (L + H * 10 ^ 18) (-(s : Int)) = min (H * 10 ^ (18 - s) + L / 10 ^ s) MX := by
  rw [sp_neg]
  have e : 10 ^ 18 = 10 ^ (18 - s) * 10 ^ s := by rw [← Nat.pow_add]; congr 1; omega
  rw [e, ← Nat.mul_assoc, Nat.add_mul_div_right _ _ (Nat.pow_pos (by decide)), Nat.add_comm]
theorem sp_big {L H : Nat} {e : Int} (hH : 1 ≤ H) (he : 1 ≤ e) : SP (L + H * 10 ^ 18) e = MX := by
  obtain ⟨k, rfl⟩ : ∃ k : Nat, e = (k : Int) := ⟨e.toNat, by omega⟩
  rw [sp_pos]
  have h1 : 10 ^ 1 ≤ 10 ^ k := p10_le (by omega)
  have h2 : (L + H * 10 ^ 18) * 10 ^ 1 ≤ (L + H * 10 ^ 18) * 10 ^ k := Nat.mul_le_mul_left _ h1
  have h3 : MX < 10 ^ 19 := by decide
  omega
/-! expected: the five products -/
theorem ex_prod (d : Nat) (hd : d ≤ 8) (l0 l1 l2 l3 q0 q1 q2 q3 q4 : Nat) (h0 : l0 < 1000000000) (h1 : l1 < 1000000000) (h2 : l2 < 1000000000) (h3 : l3 < 1000000000)
    (e0 : q0 = l0 % 10 ^ (9 - d) * 10 ^ d) (e1 : q1 = l1 % 10 ^ (9 - d) * 10 ^ d + l0 / 10 ^ (9 - d)) (e2 : q2 = l2 % 10 ^ (9 - d) * 10 ^ d + l1 / 10 ^ (9 - d)) (e3 : q3 = l3 % 10 ^ (9 - d) * 10 ^ d + l2 / 10 ^ (9 - d)) (e4 : q4 = l3 / 10 ^ (9 - d)) :
    (l0 + l1 * 1000000000 + (l2 + l3 * 1000000000) * 10 ^ 18) * 10 ^ d = q0 + q1 * 1000000000 + q2 * 10 ^ 18 + q3 * 10 ^ 27 + q4 * 10 ^ 36 ∧ q0 < 1000000000 ∧ q1 < 1000000000 ∧ q2 < 1000000000 ∧ q3 < 1000000000 ∧ q4 < 1000000000 := by
  have : d = 0 ∨ d = 1 ∨ d = 2 ∨ d = 3 ∨ d = 4 ∨ d = 5 ∨ d = 6 ∨ d = 7 ∨ d = 8 := by omega
  rcases this with rfl | rfl | rfl | rfl | rfl | rfl | rfl | rfl | rfl <;> simp only [Nat.sub_self, Nat.reducePow, Nat.reduceSub] at * <;> refine ⟨?_, ?_, ?_, ?_, ?_, ?_⟩ <;> omega
abbrev PWL : List Value := [.long (1 : Int64), .long (10 : Int64), .long (100 : Int64), .long (1000 : Int64), .long (10000 : Int64), .long (100000 : Int64), .long (1000000 : Int64), .long (10000000 : Int64), .long (100000000 : Int64), .long (1000000000 : Int64), .long (10000000000 : Int64), .long (100000000000 : Int64), .long (1000000000000 : Int64), .long (10000000000000 : Int64), .long (100000000000000 : Int64), .long (1000000000000000 : Int64), .long (10000000000000000 : Int64), .long (100000000000000000 : Int64), .long (1000000000000000000 : Int64)]
theorem own_pwl (i : Int32) (h : 0 ≤ i.toInt ∧ i.toInt ≤ 18) : ∃ z : Int64, PWL[i.toNatClampNeg]? = some (.long z) ∧ z.toInt = ((10 ^ i.toInt.toNat : Nat) : Int) := by
  have e : i.toNatClampNeg = i.toInt.toNat := rfl
  rw [e]
  obtain ⟨k, hk⟩ : ∃ k : Nat, i.toInt.toNat = k := ⟨_, rfl⟩
  rw [hk]
  have hk2 : k < 19 := by omega
  clear hk e h i
  have : ∀ k : Fin 19, PWL[k.val]? = some (.long (Int64.ofInt (10 ^ k.val))) ∧ (Int64.ofInt (10 ^ k.val)).toInt = ((10 ^ k.val : Nat) : Int) := by decide
  exact ⟨_, (this ⟨k, hk2⟩).1, (this ⟨k, hk2⟩).2⟩
def ATF (q0 q1 q2 q3 q4 : Int64) (i : Int32) : Int64 := if i = 0 then q0 else if i = 1 then q1 else if i = 2 then q2 else if i = 3 then q3 else if i = 4 then q4 else 0
theorem atf_out (q0 q1 q2 q3 q4 : Int64) {i : Int32} (h : i < 0 ∨ ¬ i < 5) : ATF q0 q1 q2 q3 q4 i = 0 := by
  have hb : i.toInt < 0 ∨ 5 ≤ i.toInt := by
    have e0 : (0 : Int32).toInt = 0 := by decide
    have e5 : (5 : Int32).toInt = 5 := by decide
    rcases h with h | h <;> rw [Int32.lt_iff_toInt_lt] at h <;> omega
  have ne : ∀ (z : Int32) (k : Int), z.toInt = k → 0 ≤ k → k < 5 → i ≠ z := fun z k e1 e2 e3 q => by subst q; omega
  unfold ATF
  rw [if_neg (ne 0 0 (by decide) (by decide) (by decide)), if_neg (ne 1 1 (by decide) (by decide) (by decide)), if_neg (ne 2 2 (by decide) (by decide) (by decide)), if_neg (ne 3 3 (by decide) (by decide) (by decide)), if_neg (ne 4 4 (by decide) (by decide) (by decide))]
theorem atf_in (q0 q1 q2 q3 q4 : Int64) {i : Int32} (h : ¬ i < 0) (h' : i < 5) : (0 ≤ i.toInt ∧ i.toInt < ([.long q0, .long q1, .long q2, .long q3, .long q4] : List Value).length) ∧ ([.long q0, .long q1, .long q2, .long q3, .long q4] : List Value)[i.toNatClampNeg]? = some (.long (ATF q0 q1 q2 q3 q4 i)) := by
  rw [Int32.lt_iff_toInt_lt] at h h'
  have e0 : (0 : Int32).toInt = 0 := by decide
  have e5 : (5 : Int32).toInt = 5 := by decide
  have hh : i.toInt = 0 ∨ i.toInt = 1 ∨ i.toInt = 2 ∨ i.toInt = 3 ∨ i.toInt = 4 := by omega
  rcases hh with q | q | q | q | q
  · obtain rfl : i = 0 := Int32.toInt_inj.mp (by rw [q]; decide)
    exact ⟨by rw [q]; simp, rfl⟩
  · obtain rfl : i = 1 := Int32.toInt_inj.mp (by rw [q]; decide)
    exact ⟨by rw [q]; simp, rfl⟩
  · obtain rfl : i = 2 := Int32.toInt_inj.mp (by rw [q]; decide)
    exact ⟨by rw [q]; simp, rfl⟩
  · obtain rfl : i = 3 := Int32.toInt_inj.mp (by rw [q]; decide)
    exact ⟨by rw [q]; simp, rfl⟩
  · obtain rfl : i = 4 := Int32.toInt_inj.mp (by rw [q]; decide)
    exact ⟨by rw [q]; simp, rfl⟩
theorem sp_up {V d j W : Nat} (hW : V * 10 ^ d = W) : SP V ((9 * j + d : Nat) : Int) = min (W * 10 ^ (9 * j)) MX := by
  rw [sp_pos, ← hW, Nat.mul_assoc, ← Nat.pow_add, Nat.add_comm d]
theorem sp_dn {V d j W : Nat} (hd : d ≤ 9 * j) (hW : V * 10 ^ d = W) : SP V (-((9 * j - d : Nat) : Int)) = min (W / 10 ^ (9 * j)) MX := by
  rw [sp_neg, ← hW]
  have e : 10 ^ (9 * j) = 10 ^ (9 * j - d) * 10 ^ d := by rw [← Nat.pow_add]; congr 1; omega
  rw [e, Nat.mul_div_mul_right _ _ (Nat.pow_pos (by decide))]
theorem or_n2 {x y : Int64} {X Y : Nat} {p : Prop} (hx : (x = 0) ↔ p) (hy : y.toInt = Y) : (x ||| y = 0) ↔ (p ∧ Y = 0) := by
  rw [or_n, hx, eq_n (Y := 0) hy (by decide)]
theorem ex_at (q0 q1 q2 q3 q4 : Int64) (Q0 Q1 Q2 Q3 Q4 : Nat) (h0 : q0.toInt = Q0) (h1 : q1.toInt = Q1) (h2 : q2.toInt = Q2) (h3 : q3.toInt = Q3) (h4 : q4.toInt = Q4) (b0 : Q0 < 1000000000) (b1 : Q1 < 1000000000) (b2 : Q2 < 1000000000) (b3 : Q3 < 1000000000) (b4 : Q4 < 1000000000) (V d : Nat) (e : Int) (hW : V * 10 ^ d = Q0 + Q1 * 1000000000 + Q2 * 10 ^ 18 + Q3 * 10 ^ 27 + Q4 * 10 ^ 36) (hd : d ≤ 8) (x : Int32) (hx : -4 ≤ x.toInt ∧ x.toInt ≤ 2) (he : e = 9 * x.toInt + d) :
    ∃ R0 R1 R2 OV : Nat, (ATF q0 q1 q2 q3 q4 (-x)).toInt = R0 ∧ (ATF q0 q1 q2 q3 q4 ((1 : Int32) - x)).toInt = R1 ∧ (ATF q0 q1 q2 q3 q4 ((2 : Int32) - x)).toInt = R2 ∧ (R0 < 1000000000 ∧ R1 < 1000000000 ∧ R2 < 1000000000) ∧ (((((ATF q0 q1 q2 q3 q4 ((3 : Int32) - x) ||| ATF q0 q1 q2 q3 q4 ((4 : Int32) - x)) ||| ATF q0 q1 q2 q3 q4 ((5 : Int32) - x)) ||| ATF q0 q1 q2 q3 q4 ((6 : Int32) - x)) ||| ATF q0 q1 q2 q3 q4 ((7 : Int32) - x)) = 0 ↔ OV = 0) ∧ SP V e = min (R0 + R1 * 1000000000 + R2 * 10 ^ 18 + OV * 10 ^ 27) MX := by
  have z0 : (0 : Int64).toInt = ((0 : Nat) : Int) := by decide
  have hh : x.toInt = -4 ∨ x.toInt = -3 ∨ x.toInt = -2 ∨ x.toInt = -1 ∨ x.toInt = 0 ∨ x.toInt = 1 ∨ x.toInt = 2 := by omega
  rcases hh with q | q | q | q | q | q | q
  · obtain rfl : x = (-4 : Int32) := Int32.toInt_inj.mp (by rw [q]; decide)
    refine ⟨Q4, 0, 0, 0, h4, z0, z0, ⟨by omega, by omega, by omega⟩, ?_, ?_⟩
    · have o3 : (ATF q0 q1 q2 q3 q4 ((3 : Int32) - (-4 : Int32)) = 0) ↔ 0 = 0 := eq_n (Y := 0) z0 (by decide)
      have o4 := or_n2 (X := 0) o3 (show (ATF q0 q1 q2 q3 q4 ((4 : Int32) - (-4 : Int32))).toInt = ((0 : Nat) : Int) from z0)
      have o5 := or_n2 (X := 0) o4 (show (ATF q0 q1 q2 q3 q4 ((5 : Int32) - (-4 : Int32))).toInt = ((0 : Nat) : Int) from z0)
      have o6 := or_n2 (X := 0) o5 (show (ATF q0 q1 q2 q3 q4 ((6 : Int32) - (-4 : Int32))).toInt = ((0 : Nat) : Int) from z0)
      have o7 := or_n2 (X := 0) o6 (show (ATF q0 q1 q2 q3 q4 ((7 : Int32) - (-4 : Int32))).toInt = ((0 : Nat) : Int) from z0)
      rw [o7]; omega
    · have := sp_dn (j := 4) (by omega) hW
      rw [show e = -((9 * 4 - d : Nat) : Int) by omega, this]
      congr 1; omega
  · obtain rfl : x = (-3 : Int32) := Int32.toInt_inj.mp (by rw [q]; decide)
    refine ⟨Q3, Q4, 0, 0, h3, h4, z0, ⟨by omega, by omega, by omega⟩, ?_, ?_⟩
    · have o3 : (ATF q0 q1 q2 q3 q4 ((3 : Int32) - (-3 : Int32)) = 0) ↔ 0 = 0 := eq_n (Y := 0) z0 (by decide)
      have o4 := or_n2 (X := 0) o3 (show (ATF q0 q1 q2 q3 q4 ((4 : Int32) - (-3 : Int32))).toInt = ((0 : Nat) : Int) from z0)
      have o5 := or_n2 (X := 0) o4 (show (ATF q0 q1 q2 q3 q4 ((5 : Int32) - (-3 : Int32))).toInt = ((0 : Nat) : Int) from z0)
      have o6 := or_n2 (X := 0) o5 (show (ATF q0 q1 q2 q3 q4 ((6 : Int32) - (-3 : Int32))).toInt = ((0 : Nat) : Int) from z0)
      have o7 := or_n2 (X := 0) o6 (show (ATF q0 q1 q2 q3 q4 ((7 : Int32) - (-3 : Int32))).toInt = ((0 : Nat) : Int) from z0)
      rw [o7]; omega
    · have := sp_dn (j := 3) (by omega) hW
      rw [show e = -((9 * 3 - d : Nat) : Int) by omega, this]
      congr 1; omega
  · obtain rfl : x = (-2 : Int32) := Int32.toInt_inj.mp (by rw [q]; decide)
    refine ⟨Q2, Q3, Q4, 0, h2, h3, h4, ⟨by omega, by omega, by omega⟩, ?_, ?_⟩
    · have o3 : (ATF q0 q1 q2 q3 q4 ((3 : Int32) - (-2 : Int32)) = 0) ↔ 0 = 0 := eq_n (Y := 0) z0 (by decide)
      have o4 := or_n2 (X := 0) o3 (show (ATF q0 q1 q2 q3 q4 ((4 : Int32) - (-2 : Int32))).toInt = ((0 : Nat) : Int) from z0)
      have o5 := or_n2 (X := 0) o4 (show (ATF q0 q1 q2 q3 q4 ((5 : Int32) - (-2 : Int32))).toInt = ((0 : Nat) : Int) from z0)
      have o6 := or_n2 (X := 0) o5 (show (ATF q0 q1 q2 q3 q4 ((6 : Int32) - (-2 : Int32))).toInt = ((0 : Nat) : Int) from z0)
      have o7 := or_n2 (X := 0) o6 (show (ATF q0 q1 q2 q3 q4 ((7 : Int32) - (-2 : Int32))).toInt = ((0 : Nat) : Int) from z0)
      rw [o7]; omega
    · have := sp_dn (j := 2) (by omega) hW
      rw [show e = -((9 * 2 - d : Nat) : Int) by omega, this]
      congr 1; omega
  · obtain rfl : x = (-1 : Int32) := Int32.toInt_inj.mp (by rw [q]; decide)
    refine ⟨Q1, Q2, Q3, Q4 * 1, h1, h2, h3, ⟨by omega, by omega, by omega⟩, ?_, ?_⟩
    · have o3 : (ATF q0 q1 q2 q3 q4 ((3 : Int32) - (-1 : Int32)) = 0) ↔ Q4 = 0 := eq_n (Y := 0) h4 (by decide)
      have o4 := or_n2 (X := 0) o3 (show (ATF q0 q1 q2 q3 q4 ((4 : Int32) - (-1 : Int32))).toInt = ((0 : Nat) : Int) from z0)
      have o5 := or_n2 (X := 0) o4 (show (ATF q0 q1 q2 q3 q4 ((5 : Int32) - (-1 : Int32))).toInt = ((0 : Nat) : Int) from z0)
      have o6 := or_n2 (X := 0) o5 (show (ATF q0 q1 q2 q3 q4 ((6 : Int32) - (-1 : Int32))).toInt = ((0 : Nat) : Int) from z0)
      have o7 := or_n2 (X := 0) o6 (show (ATF q0 q1 q2 q3 q4 ((7 : Int32) - (-1 : Int32))).toInt = ((0 : Nat) : Int) from z0)
      rw [o7]; omega
    · have := sp_dn (j := 1) (by omega) hW
      rw [show e = -((9 * 1 - d : Nat) : Int) by omega, this]
      congr 1; omega
  · obtain rfl : x = (0 : Int32) := Int32.toInt_inj.mp (by rw [q]; decide)
    refine ⟨Q0, Q1, Q2, Q3 * 1 + Q4 * 1000000000, h0, h1, h2, ⟨by omega, by omega, by omega⟩, ?_, ?_⟩
    · have o3 : (ATF q0 q1 q2 q3 q4 ((3 : Int32) - (0 : Int32)) = 0) ↔ Q3 = 0 := eq_n (Y := 0) h3 (by decide)
      have o4 := or_n2 (X := 0) o3 (show (ATF q0 q1 q2 q3 q4 ((4 : Int32) - (0 : Int32))).toInt = ((Q4 : Nat) : Int) from h4)
      have o5 := or_n2 (X := 0) o4 (show (ATF q0 q1 q2 q3 q4 ((5 : Int32) - (0 : Int32))).toInt = ((0 : Nat) : Int) from z0)
      have o6 := or_n2 (X := 0) o5 (show (ATF q0 q1 q2 q3 q4 ((6 : Int32) - (0 : Int32))).toInt = ((0 : Nat) : Int) from z0)
      have o7 := or_n2 (X := 0) o6 (show (ATF q0 q1 q2 q3 q4 ((7 : Int32) - (0 : Int32))).toInt = ((0 : Nat) : Int) from z0)
      rw [o7]; omega
    · have := sp_up (j := 0) hW
      rw [show e = ((9 * 0 + d : Nat) : Int) by omega, this]
      congr 1; omega
  · obtain rfl : x = (1 : Int32) := Int32.toInt_inj.mp (by rw [q]; decide)
    refine ⟨0, Q0, Q1, Q2 * 1 + Q3 * 1000000000 + Q4 * 1000000000000000000, z0, h0, h1, ⟨by omega, by omega, by omega⟩, ?_, ?_⟩
    · have o3 : (ATF q0 q1 q2 q3 q4 ((3 : Int32) - (1 : Int32)) = 0) ↔ Q2 = 0 := eq_n (Y := 0) h2 (by decide)
      have o4 := or_n2 (X := 0) o3 (show (ATF q0 q1 q2 q3 q4 ((4 : Int32) - (1 : Int32))).toInt = ((Q3 : Nat) : Int) from h3)
      have o5 := or_n2 (X := 0) o4 (show (ATF q0 q1 q2 q3 q4 ((5 : Int32) - (1 : Int32))).toInt = ((Q4 : Nat) : Int) from h4)
      have o6 := or_n2 (X := 0) o5 (show (ATF q0 q1 q2 q3 q4 ((6 : Int32) - (1 : Int32))).toInt = ((0 : Nat) : Int) from z0)
      have o7 := or_n2 (X := 0) o6 (show (ATF q0 q1 q2 q3 q4 ((7 : Int32) - (1 : Int32))).toInt = ((0 : Nat) : Int) from z0)
      rw [o7]; omega
    · have := sp_up (j := 1) hW
      rw [show e = ((9 * 1 + d : Nat) : Int) by omega, this]
      congr 1; omega
  · obtain rfl : x = (2 : Int32) := Int32.toInt_inj.mp (by rw [q]; decide)
    refine ⟨0, 0, Q0, Q1 * 1 + Q2 * 1000000000 + Q3 * 1000000000000000000 + Q4 * 1000000000000000000000000000, z0, z0, h0, ⟨by omega, by omega, by omega⟩, ?_, ?_⟩
    · have o3 : (ATF q0 q1 q2 q3 q4 ((3 : Int32) - (2 : Int32)) = 0) ↔ Q1 = 0 := eq_n (Y := 0) h1 (by decide)
      have o4 := or_n2 (X := 0) o3 (show (ATF q0 q1 q2 q3 q4 ((4 : Int32) - (2 : Int32))).toInt = ((Q2 : Nat) : Int) from h2)
      have o5 := or_n2 (X := 0) o4 (show (ATF q0 q1 q2 q3 q4 ((5 : Int32) - (2 : Int32))).toInt = ((Q3 : Nat) : Int) from h3)
      have o6 := or_n2 (X := 0) o5 (show (ATF q0 q1 q2 q3 q4 ((6 : Int32) - (2 : Int32))).toInt = ((Q4 : Nat) : Int) from h4)
      have o7 := or_n2 (X := 0) o6 (show (ATF q0 q1 q2 q3 q4 ((7 : Int32) - (2 : Int32))).toInt = ((0 : Nat) : Int) from z0)
      rw [o7]; omega
    · have := sp_up (j := 2) hW
      rw [show e = ((9 * 2 + d : Nat) : Int) by omega, this]
      congr 1; omega
theorem d1_0 : decode prog_132_method_1_code 0 = .ok (.aload_n 0, 1) := by decide +kernel
theorem d1_1 : decode prog_132_method_1_code 1 = .ok (.invokespecial 3, 3) := by decide +kernel
theorem d1_4 : decode prog_132_method_1_code 4 = .ok (.aload_n 0, 1) := by decide +kernel
theorem d1_5 : decode prog_132_method_1_code 5 = .ok (.iconst 4, 1) := by decide +kernel
theorem d1_6 : decode prog_132_method_1_code 6 = .ok (.newarray .long, 2) := by decide +kernel
theorem d1_8 : decode prog_132_method_1_code 8 = .ok (.putfield 9, 3) := by decide +kernel
theorem d1_11 : decode prog_132_method_1_code 11 = .ok (.return_, 1) := by decide +kernel
set_option maxRecDepth 65536 in
set_option maxHeartbeats 40000000 in
theorem b1 {l : Launch} {Z : State} {a0 : Array Value} (hw : HW a0 Z) (x0 : Addr) {n0 : Nat} {h : Heap} (Z0 : n0 ≤ h.size) (g0 : n0 ≤ x0) (E0 : Exa Z h x0 "com/example/planwright/planwright/service/testing/PercentageQuotient") (F0 : Fld Z h x0 "com/example/planwright/planwright/service/testing/PercentageQuotient" "limbs" "[J" .null) (F1 : Fld Z h x0 "com/example/planwright/planwright/service/testing/PercentageQuotient" "scale" "I" (.int (0 : Int32))) : OM l Z (⟨"com/example/planwright/planwright/service/testing/PercentageQuotient", "<init>", "()V"⟩ : MethodName) prog_132_method_1_code 1 none ⟨1, 1, 4, 12⟩ n0 h #[(.ref x0)] (fun v h' => v = none ∧ Keep h h' [x0] ∧ ∃ b : Addr, h.size ≤ b ∧ Fld Z h' x0 "com/example/planwright/planwright/service/testing/PercentageQuotient" "limbs" "[J" (.ref b) ∧ Fld Z h' x0 "com/example/planwright/planwright/service/testing/PercentageQuotient" "scale" "I" (.int (0 : Int32)) ∧ OA Z h' b .long [(.long (0 : Int64)), (.long (0 : Int64)), (.long (0 : Int64)), (.long (0 : Int64))]) 1 4 := by
  refine OM.of_body (ls := #[.val (.ref x0)]) (plainFor_of_name pn_0) (fun m => by first | (simp [entryFrame, mkF, argsToLocals, Value.category]; done) | rfl) ?_
  intro p e s m below meth c C
  refine OG.ow (OG.aloadN C d1_0 rfl rfl (pc' := 1) rfl) ?_
  refine OG.ow (OG.initO C (w9 hw) (w10 hw) (w11 hw) d1_1 rfl (by decide) (W := 0) rfl (by decide) (pc' := 4) rfl) ?_
  refine OG.ow (OG.aloadN C d1_4 rfl rfl (pc' := 5) rfl) ?_
  refine OG.ow (OG.iconst C d1_5 (z := (4 : Int32)) rfl (pc' := 6) rfl) ?_
  refine OW.newP C (ty := .long) rfl (w12 hw) (by decide) (cap := 4) (by decide) (by decide) d1_6 (by decide) (by decide) (pc' := 8) rfl ?_
  intro a1 h2 ga1 Eh2 Aa1
  have G3 := (Fld.ext Eh2 F0)
  have G4 := (Exa.ext Eh2 E0)
  refine OW.putF C (host := "") (Or.inl (w13 hw)) Via.refl G3 G4 (Or.inr ⟨(w14 hw), rfl, rfl⟩) (w4 hw) (ty := (.array .long)) (by decide) rfl rfl g0 d1_8 (pc' := 11) rfl ?_
  intro h5 Wh5
  have G6 := Fld.same Wh5 G3
  refine OW.retV C d1_11 (by decide) (by decide) ?_
  have G7 := (Fld.other Wh5 (Fld.ext Eh2 F1) (Or.inr (slot_ne (Or.inl (w45 hw)) (Or.inr (w14 hw)) (by decide) (t := .int) (t' := (.array .long)) (by decide) (by decide))))
  have G8 := (OA.other (show OA Z h2 a1 .long [(.long (0 : Int64)), (.long (0 : Int64)), (.long (0 : Int64)), (.long (0 : Int64))] from Aa1) Wh5 (Ne.symm (Nat.ne_of_lt (Nat.lt_of_lt_of_le (Nat.lt_of_lt_of_le (E0).lt (Nat.le_refl _)) (Nat.le_of_eq ga1)))))
  exact ⟨rfl, (((Keep.refl h [x0]).ext Eh2).wr Wh5 (Or.inl (List.mem_of_getElem? (i := 0) rfl))), _, (Nat.le_of_eq ga1), G6, G7, G8⟩
theorem d5_0 : decode prog_132_method_14_code 0 = .ok (.iconst 1, 1) := by decide +kernel
theorem d5_1 : decode prog_132_method_14_code 1 = .ok (.istore_n 2, 1) := by decide +kernel
theorem d5_2 : decode prog_132_method_14_code 2 = .ok (.iload_n 2, 1) := by decide +kernel
theorem d5_3 : decode prog_132_method_14_code 3 = .ok (.getstatic 30, 3) := by decide +kernel
theorem d5_6 : decode prog_132_method_14_code 6 = .ok (.arraylength, 1) := by decide +kernel
theorem d5_7 : decode prog_132_method_14_code 7 = .ok (.if_icmp .ge 19, 3) := by decide +kernel
theorem d5_10 : decode prog_132_method_14_code 10 = .ok (.lload_n 0, 1) := by decide +kernel
theorem d5_11 : decode prog_132_method_14_code 11 = .ok (.getstatic 30, 3) := by decide +kernel
theorem d5_14 : decode prog_132_method_14_code 14 = .ok (.iload_n 2, 1) := by decide +kernel
theorem d5_15 : decode prog_132_method_14_code 15 = .ok (.laload, 1) := by decide +kernel
theorem d5_16 : decode prog_132_method_14_code 16 = .ok (.lcmp, 1) := by decide +kernel
theorem d5_17 : decode prog_132_method_14_code 17 = .ok (.ifCond .lt 9, 3) := by decide +kernel
theorem d5_20 : decode prog_132_method_14_code 20 = .ok (.iinc 2 1, 3) := by decide +kernel
theorem d5_23 : decode prog_132_method_14_code 23 = .ok (.goto (-21), 3) := by decide +kernel
theorem d5_26 : decode prog_132_method_14_code 26 = .ok (.iload_n 2, 1) := by decide +kernel
theorem d5_27 : decode prog_132_method_14_code 27 = .ok (.ireturn, 1) := by decide +kernel
def F5 (x0 : Int64) : Int32 := (if x0 < (10 : Int64) then (1 : Int32) else (if x0 < (100 : Int64) then (2 : Int32) else (if x0 < (1000 : Int64) then (3 : Int32) else (if x0 < (10000 : Int64) then (4 : Int32) else (if x0 < (100000 : Int64) then (5 : Int32) else (if x0 < (1000000 : Int64) then (6 : Int32) else (if x0 < (10000000 : Int64) then (7 : Int32) else (if x0 < (100000000 : Int64) then (8 : Int32) else (if x0 < (1000000000 : Int64) then (9 : Int32) else (if x0 < (10000000000 : Int64) then (10 : Int32) else (if x0 < (100000000000 : Int64) then (11 : Int32) else (if x0 < (1000000000000 : Int64) then (12 : Int32) else (if x0 < (10000000000000 : Int64) then (13 : Int32) else (if x0 < (100000000000000 : Int64) then (14 : Int32) else (if x0 < (1000000000000000 : Int64) then (15 : Int32) else (if x0 < (10000000000000000 : Int64) then (16 : Int32) else (if x0 < (100000000000000000 : Int64) then (17 : Int32) else (if x0 < (1000000000000000000 : Int64) then (18 : Int32) else (19 : Int32)))))))))))))))))))
set_option maxRecDepth 65536 in
set_option maxHeartbeats 40000000 in
theorem b5 {l : Launch} {Z : State} {a0 : Array Value} (hw : HW a0 Z) (x0 : Int64) {n0 : Nat} {h : Heap} {pw : Addr} (S_pw : Sta Z h "com/example/planwright/planwright/service/testing/PercentageQuotient" "POWERS_OF_TEN" "[J" (.ref pw)) (A_pw : OA Z h pw .long PWL) : OM l Z (⟨"com/example/planwright/planwright/service/testing/PercentageQuotient", "digits", "(J)I"⟩ : MethodName) prog_132_method_14_code 3 (some .int) ⟨0, 0, 0, 0⟩ n0 h #[(.long x0)] (fun v h' => v = some (.int (F5 x0)) ∧ h' = h) 0 0 := by
  refine OM.of_body (ls := #[.val (.long x0), .second, .unset]) (plainFor_of_name pn_0) (fun m => by first | (simp [entryFrame, mkF, argsToLocals, Value.category]; done) | rfl) ?_
  intro p e s m below meth c C
  refine OG.ow (OG.iconst C d5_0 (z := (1 : Int32)) rfl (pc' := 1) rfl) ?_
  refine OG.ow (OG.istoreN C d5_1 (ls' := #[.val (.long x0), .second, .val (.int (1 : Int32))]) rfl (pc' := 2) rfl) ?_
  refine OG.ow (OG.iloadN C d5_2 rfl (pc' := 3) rfl) ?_
  refine OG.ow (OG.getS C (host := "") (Or.inl (w20 hw)) Via.refl S_pw d5_3 (pc' := 6) rfl) ?_
  refine OG.ow (OG.arraylength C A_pw (z := (19 : Int32)) (by first | rfl | decide) d5_6 (pc' := 7) rfl) ?_
  refine OG.ow (OG.icmpNo C d5_7 (tlt (by decide : (1 : Int32) < (19 : Int32))).2.1 (pc' := 10) rfl) ?_
  refine OG.ow (OG.lloadN C d5_10 rfl (pc' := 11) rfl) ?_
  refine OG.ow (OG.getS C (host := "") (Or.inl (w20 hw)) Via.refl S_pw d5_11 (pc' := 14) rfl) ?_
  refine OG.ow (OG.iloadN C d5_14 rfl (pc' := 15) rfl) ?_
  refine OG.ow (OG.laload C A_pw (own_ib (n := 19) rfl (by decide)) rfl d5_15 (pc' := 16) rfl) ?_
  refine OG.ow (OG.lcmp C d5_16 (pc' := 17) rfl) ?_
  refine OG.ow (OG.ite (α := Int32) (P := x0 < (10 : Int64)) (f := fun v => (mkF m 26 #[.val (.long x0), .second, .val (.int v)] [])) (x := (1 : Int32)) (y := (if x0 < (100 : Int64) then (2 : Int32) else (if x0 < (1000 : Int64) then (3 : Int32) else (if x0 < (10000 : Int64) then (4 : Int32) else (if x0 < (100000 : Int64) then (5 : Int32) else (if x0 < (1000000 : Int64) then (6 : Int32) else (if x0 < (10000000 : Int64) then (7 : Int32) else (if x0 < (100000000 : Int64) then (8 : Int32) else (if x0 < (1000000000 : Int64) then (9 : Int32) else (if x0 < (10000000000 : Int64) then (10 : Int32) else (if x0 < (100000000000 : Int64) then (11 : Int32) else (if x0 < (1000000000000 : Int64) then (12 : Int32) else (if x0 < (10000000000000 : Int64) then (13 : Int32) else (if x0 < (100000000000000 : Int64) then (14 : Int32) else (if x0 < (1000000000000000 : Int64) then (15 : Int32) else (if x0 < (10000000000000000 : Int64) then (16 : Int32) else (if x0 < (100000000000000000 : Int64) then (17 : Int32) else (if x0 < (1000000000000000000 : Int64) then (18 : Int32) else (19 : Int32))))))))))))))))))) (fun hc => ?_) (fun hc => ?_)) ?_
  · refine OG.trans (OG.ifYes C d5_17 (tltL hc).1 (by decide) (pc' := 26) (by decide)) ?_
    exact OG.refl
  · refine OG.trans (OG.ifNo C d5_17 (fltL hc).1 (pc' := 20) rfl) ?_
    refine OG.trans (OG.iinc C d5_20 (z := (1 : Int32)) rfl rfl (ls' := #[.val (.long x0), .second, .val (.int (2 : Int32))]) (by rw [show (1 : Int32) + (1 : Int32) = (2 : Int32) by decide]; rfl) (pc' := 23) rfl) ?_
    refine OG.trans (OG.goto C d5_23 (by decide) (pc' := 2) (by decide)) ?_
    refine OG.trans (OG.iloadN C d5_2 rfl (pc' := 3) rfl) ?_
    refine OG.trans (OG.getS C (host := "") (Or.inl (w20 hw)) Via.refl S_pw d5_3 (pc' := 6) rfl) ?_
    refine OG.trans (OG.arraylength C A_pw (z := (19 : Int32)) (by first | rfl | decide) d5_6 (pc' := 7) rfl) ?_
    refine OG.trans (OG.icmpNo C d5_7 (tlt (by decide : (2 : Int32) < (19 : Int32))).2.1 (pc' := 10) rfl) ?_
    refine OG.trans (OG.lloadN C d5_10 rfl (pc' := 11) rfl) ?_
    refine OG.trans (OG.getS C (host := "") (Or.inl (w20 hw)) Via.refl S_pw d5_11 (pc' := 14) rfl) ?_
    refine OG.trans (OG.iloadN C d5_14 rfl (pc' := 15) rfl) ?_
    refine OG.trans (OG.laload C A_pw (own_ib (n := 19) rfl (by decide)) rfl d5_15 (pc' := 16) rfl) ?_
    refine OG.trans (OG.lcmp C d5_16 (pc' := 17) rfl) ?_
    refine OG.trans (OG.ite (α := Int32) (P := x0 < (100 : Int64)) (f := fun v => (mkF m 26 #[.val (.long x0), .second, .val (.int v)] [])) (x := (2 : Int32)) (y := (if x0 < (1000 : Int64) then (3 : Int32) else (if x0 < (10000 : Int64) then (4 : Int32) else (if x0 < (100000 : Int64) then (5 : Int32) else (if x0 < (1000000 : Int64) then (6 : Int32) else (if x0 < (10000000 : Int64) then (7 : Int32) else (if x0 < (100000000 : Int64) then (8 : Int32) else (if x0 < (1000000000 : Int64) then (9 : Int32) else (if x0 < (10000000000 : Int64) then (10 : Int32) else (if x0 < (100000000000 : Int64) then (11 : Int32) else (if x0 < (1000000000000 : Int64) then (12 : Int32) else (if x0 < (10000000000000 : Int64) then (13 : Int32) else (if x0 < (100000000000000 : Int64) then (14 : Int32) else (if x0 < (1000000000000000 : Int64) then (15 : Int32) else (if x0 < (10000000000000000 : Int64) then (16 : Int32) else (if x0 < (100000000000000000 : Int64) then (17 : Int32) else (if x0 < (1000000000000000000 : Int64) then (18 : Int32) else (19 : Int32)))))))))))))))))) (fun hc => ?_) (fun hc => ?_)) ?_
    · refine OG.trans (OG.ifYes C d5_17 (tltL hc).1 (by decide) (pc' := 26) (by decide)) ?_
      exact OG.refl
    · refine OG.trans (OG.ifNo C d5_17 (fltL hc).1 (pc' := 20) rfl) ?_
      refine OG.trans (OG.iinc C d5_20 (z := (1 : Int32)) rfl rfl (ls' := #[.val (.long x0), .second, .val (.int (3 : Int32))]) (by rw [show (2 : Int32) + (1 : Int32) = (3 : Int32) by decide]; rfl) (pc' := 23) rfl) ?_
      refine OG.trans (OG.goto C d5_23 (by decide) (pc' := 2) (by decide)) ?_
      refine OG.trans (OG.iloadN C d5_2 rfl (pc' := 3) rfl) ?_
      refine OG.trans (OG.getS C (host := "") (Or.inl (w20 hw)) Via.refl S_pw d5_3 (pc' := 6) rfl) ?_
      refine OG.trans (OG.arraylength C A_pw (z := (19 : Int32)) (by first | rfl | decide) d5_6 (pc' := 7) rfl) ?_
      refine OG.trans (OG.icmpNo C d5_7 (tlt (by decide : (3 : Int32) < (19 : Int32))).2.1 (pc' := 10) rfl) ?_
      refine OG.trans (OG.lloadN C d5_10 rfl (pc' := 11) rfl) ?_
      refine OG.trans (OG.getS C (host := "") (Or.inl (w20 hw)) Via.refl S_pw d5_11 (pc' := 14) rfl) ?_
      refine OG.trans (OG.iloadN C d5_14 rfl (pc' := 15) rfl) ?_
      refine OG.trans (OG.laload C A_pw (own_ib (n := 19) rfl (by decide)) rfl d5_15 (pc' := 16) rfl) ?_
      refine OG.trans (OG.lcmp C d5_16 (pc' := 17) rfl) ?_
      refine OG.trans (OG.ite (α := Int32) (P := x0 < (1000 : Int64)) (f := fun v => (mkF m 26 #[.val (.long x0), .second, .val (.int v)] [])) (x := (3 : Int32)) (y := (if x0 < (10000 : Int64) then (4 : Int32) else (if x0 < (100000 : Int64) then (5 : Int32) else (if x0 < (1000000 : Int64) then (6 : Int32) else (if x0 < (10000000 : Int64) then (7 : Int32) else (if x0 < (100000000 : Int64) then (8 : Int32) else (if x0 < (1000000000 : Int64) then (9 : Int32) else (if x0 < (10000000000 : Int64) then (10 : Int32) else (if x0 < (100000000000 : Int64) then (11 : Int32) else (if x0 < (1000000000000 : Int64) then (12 : Int32) else (if x0 < (10000000000000 : Int64) then (13 : Int32) else (if x0 < (100000000000000 : Int64) then (14 : Int32) else (if x0 < (1000000000000000 : Int64) then (15 : Int32) else (if x0 < (10000000000000000 : Int64) then (16 : Int32) else (if x0 < (100000000000000000 : Int64) then (17 : Int32) else (if x0 < (1000000000000000000 : Int64) then (18 : Int32) else (19 : Int32))))))))))))))))) (fun hc => ?_) (fun hc => ?_)) ?_
      · refine OG.trans (OG.ifYes C d5_17 (tltL hc).1 (by decide) (pc' := 26) (by decide)) ?_
        exact OG.refl
      · refine OG.trans (OG.ifNo C d5_17 (fltL hc).1 (pc' := 20) rfl) ?_
        refine OG.trans (OG.iinc C d5_20 (z := (1 : Int32)) rfl rfl (ls' := #[.val (.long x0), .second, .val (.int (4 : Int32))]) (by rw [show (3 : Int32) + (1 : Int32) = (4 : Int32) by decide]; rfl) (pc' := 23) rfl) ?_
        refine OG.trans (OG.goto C d5_23 (by decide) (pc' := 2) (by decide)) ?_
        refine OG.trans (OG.iloadN C d5_2 rfl (pc' := 3) rfl) ?_
        refine OG.trans (OG.getS C (host := "") (Or.inl (w20 hw)) Via.refl S_pw d5_3 (pc' := 6) rfl) ?_
        refine OG.trans (OG.arraylength C A_pw (z := (19 : Int32)) (by first | rfl | decide) d5_6 (pc' := 7) rfl) ?_
        refine OG.trans (OG.icmpNo C d5_7 (tlt (by decide : (4 : Int32) < (19 : Int32))).2.1 (pc' := 10) rfl) ?_
        refine OG.trans (OG.lloadN C d5_10 rfl (pc' := 11) rfl) ?_
        refine OG.trans (OG.getS C (host := "") (Or.inl (w20 hw)) Via.refl S_pw d5_11 (pc' := 14) rfl) ?_
        refine OG.trans (OG.iloadN C d5_14 rfl (pc' := 15) rfl) ?_
        refine OG.trans (OG.laload C A_pw (own_ib (n := 19) rfl (by decide)) rfl d5_15 (pc' := 16) rfl) ?_
        refine OG.trans (OG.lcmp C d5_16 (pc' := 17) rfl) ?_
        refine OG.trans (OG.ite (α := Int32) (P := x0 < (10000 : Int64)) (f := fun v => (mkF m 26 #[.val (.long x0), .second, .val (.int v)] [])) (x := (4 : Int32)) (y := (if x0 < (100000 : Int64) then (5 : Int32) else (if x0 < (1000000 : Int64) then (6 : Int32) else (if x0 < (10000000 : Int64) then (7 : Int32) else (if x0 < (100000000 : Int64) then (8 : Int32) else (if x0 < (1000000000 : Int64) then (9 : Int32) else (if x0 < (10000000000 : Int64) then (10 : Int32) else (if x0 < (100000000000 : Int64) then (11 : Int32) else (if x0 < (1000000000000 : Int64) then (12 : Int32) else (if x0 < (10000000000000 : Int64) then (13 : Int32) else (if x0 < (100000000000000 : Int64) then (14 : Int32) else (if x0 < (1000000000000000 : Int64) then (15 : Int32) else (if x0 < (10000000000000000 : Int64) then (16 : Int32) else (if x0 < (100000000000000000 : Int64) then (17 : Int32) else (if x0 < (1000000000000000000 : Int64) then (18 : Int32) else (19 : Int32)))))))))))))))) (fun hc => ?_) (fun hc => ?_)) ?_
        · refine OG.trans (OG.ifYes C d5_17 (tltL hc).1 (by decide) (pc' := 26) (by decide)) ?_
          exact OG.refl
        · refine OG.trans (OG.ifNo C d5_17 (fltL hc).1 (pc' := 20) rfl) ?_
          refine OG.trans (OG.iinc C d5_20 (z := (1 : Int32)) rfl rfl (ls' := #[.val (.long x0), .second, .val (.int (5 : Int32))]) (by rw [show (4 : Int32) + (1 : Int32) = (5 : Int32) by decide]; rfl) (pc' := 23) rfl) ?_
          refine OG.trans (OG.goto C d5_23 (by decide) (pc' := 2) (by decide)) ?_
          refine OG.trans (OG.iloadN C d5_2 rfl (pc' := 3) rfl) ?_
          refine OG.trans (OG.getS C (host := "") (Or.inl (w20 hw)) Via.refl S_pw d5_3 (pc' := 6) rfl) ?_
          refine OG.trans (OG.arraylength C A_pw (z := (19 : Int32)) (by first | rfl | decide) d5_6 (pc' := 7) rfl) ?_
          refine OG.trans (OG.icmpNo C d5_7 (tlt (by decide : (5 : Int32) < (19 : Int32))).2.1 (pc' := 10) rfl) ?_
          refine OG.trans (OG.lloadN C d5_10 rfl (pc' := 11) rfl) ?_
          refine OG.trans (OG.getS C (host := "") (Or.inl (w20 hw)) Via.refl S_pw d5_11 (pc' := 14) rfl) ?_
          refine OG.trans (OG.iloadN C d5_14 rfl (pc' := 15) rfl) ?_
          refine OG.trans (OG.laload C A_pw (own_ib (n := 19) rfl (by decide)) rfl d5_15 (pc' := 16) rfl) ?_
          refine OG.trans (OG.lcmp C d5_16 (pc' := 17) rfl) ?_
          refine OG.trans (OG.ite (α := Int32) (P := x0 < (100000 : Int64)) (f := fun v => (mkF m 26 #[.val (.long x0), .second, .val (.int v)] [])) (x := (5 : Int32)) (y := (if x0 < (1000000 : Int64) then (6 : Int32) else (if x0 < (10000000 : Int64) then (7 : Int32) else (if x0 < (100000000 : Int64) then (8 : Int32) else (if x0 < (1000000000 : Int64) then (9 : Int32) else (if x0 < (10000000000 : Int64) then (10 : Int32) else (if x0 < (100000000000 : Int64) then (11 : Int32) else (if x0 < (1000000000000 : Int64) then (12 : Int32) else (if x0 < (10000000000000 : Int64) then (13 : Int32) else (if x0 < (100000000000000 : Int64) then (14 : Int32) else (if x0 < (1000000000000000 : Int64) then (15 : Int32) else (if x0 < (10000000000000000 : Int64) then (16 : Int32) else (if x0 < (100000000000000000 : Int64) then (17 : Int32) else (if x0 < (1000000000000000000 : Int64) then (18 : Int32) else (19 : Int32))))))))))))))) (fun hc => ?_) (fun hc => ?_)) ?_
          · refine OG.trans (OG.ifYes C d5_17 (tltL hc).1 (by decide) (pc' := 26) (by decide)) ?_
            exact OG.refl
          · refine OG.trans (OG.ifNo C d5_17 (fltL hc).1 (pc' := 20) rfl) ?_
            refine OG.trans (OG.iinc C d5_20 (z := (1 : Int32)) rfl rfl (ls' := #[.val (.long x0), .second, .val (.int (6 : Int32))]) (by rw [show (5 : Int32) + (1 : Int32) = (6 : Int32) by decide]; rfl) (pc' := 23) rfl) ?_
            refine OG.trans (OG.goto C d5_23 (by decide) (pc' := 2) (by decide)) ?_
            refine OG.trans (OG.iloadN C d5_2 rfl (pc' := 3) rfl) ?_
            refine OG.trans (OG.getS C (host := "") (Or.inl (w20 hw)) Via.refl S_pw d5_3 (pc' := 6) rfl) ?_
            refine OG.trans (OG.arraylength C A_pw (z := (19 : Int32)) (by first | rfl | decide) d5_6 (pc' := 7) rfl) ?_
            refine OG.trans (OG.icmpNo C d5_7 (tlt (by decide : (6 : Int32) < (19 : Int32))).2.1 (pc' := 10) rfl) ?_
            refine OG.trans (OG.lloadN C d5_10 rfl (pc' := 11) rfl) ?_
            refine OG.trans (OG.getS C (host := "") (Or.inl (w20 hw)) Via.refl S_pw d5_11 (pc' := 14) rfl) ?_
            refine OG.trans (OG.iloadN C d5_14 rfl (pc' := 15) rfl) ?_
            refine OG.trans (OG.laload C A_pw (own_ib (n := 19) rfl (by decide)) rfl d5_15 (pc' := 16) rfl) ?_
            refine OG.trans (OG.lcmp C d5_16 (pc' := 17) rfl) ?_
            refine OG.trans (OG.ite (α := Int32) (P := x0 < (1000000 : Int64)) (f := fun v => (mkF m 26 #[.val (.long x0), .second, .val (.int v)] [])) (x := (6 : Int32)) (y := (if x0 < (10000000 : Int64) then (7 : Int32) else (if x0 < (100000000 : Int64) then (8 : Int32) else (if x0 < (1000000000 : Int64) then (9 : Int32) else (if x0 < (10000000000 : Int64) then (10 : Int32) else (if x0 < (100000000000 : Int64) then (11 : Int32) else (if x0 < (1000000000000 : Int64) then (12 : Int32) else (if x0 < (10000000000000 : Int64) then (13 : Int32) else (if x0 < (100000000000000 : Int64) then (14 : Int32) else (if x0 < (1000000000000000 : Int64) then (15 : Int32) else (if x0 < (10000000000000000 : Int64) then (16 : Int32) else (if x0 < (100000000000000000 : Int64) then (17 : Int32) else (if x0 < (1000000000000000000 : Int64) then (18 : Int32) else (19 : Int32)))))))))))))) (fun hc => ?_) (fun hc => ?_)) ?_
            · refine OG.trans (OG.ifYes C d5_17 (tltL hc).1 (by decide) (pc' := 26) (by decide)) ?_
              exact OG.refl
            · refine OG.trans (OG.ifNo C d5_17 (fltL hc).1 (pc' := 20) rfl) ?_
              refine OG.trans (OG.iinc C d5_20 (z := (1 : Int32)) rfl rfl (ls' := #[.val (.long x0), .second, .val (.int (7 : Int32))]) (by rw [show (6 : Int32) + (1 : Int32) = (7 : Int32) by decide]; rfl) (pc' := 23) rfl) ?_
              refine OG.trans (OG.goto C d5_23 (by decide) (pc' := 2) (by decide)) ?_
              refine OG.trans (OG.iloadN C d5_2 rfl (pc' := 3) rfl) ?_
              refine OG.trans (OG.getS C (host := "") (Or.inl (w20 hw)) Via.refl S_pw d5_3 (pc' := 6) rfl) ?_
              refine OG.trans (OG.arraylength C A_pw (z := (19 : Int32)) (by first | rfl | decide) d5_6 (pc' := 7) rfl) ?_
              refine OG.trans (OG.icmpNo C d5_7 (tlt (by decide : (7 : Int32) < (19 : Int32))).2.1 (pc' := 10) rfl) ?_
              refine OG.trans (OG.lloadN C d5_10 rfl (pc' := 11) rfl) ?_
              refine OG.trans (OG.getS C (host := "") (Or.inl (w20 hw)) Via.refl S_pw d5_11 (pc' := 14) rfl) ?_
              refine OG.trans (OG.iloadN C d5_14 rfl (pc' := 15) rfl) ?_
              refine OG.trans (OG.laload C A_pw (own_ib (n := 19) rfl (by decide)) rfl d5_15 (pc' := 16) rfl) ?_
              refine OG.trans (OG.lcmp C d5_16 (pc' := 17) rfl) ?_
              refine OG.trans (OG.ite (α := Int32) (P := x0 < (10000000 : Int64)) (f := fun v => (mkF m 26 #[.val (.long x0), .second, .val (.int v)] [])) (x := (7 : Int32)) (y := (if x0 < (100000000 : Int64) then (8 : Int32) else (if x0 < (1000000000 : Int64) then (9 : Int32) else (if x0 < (10000000000 : Int64) then (10 : Int32) else (if x0 < (100000000000 : Int64) then (11 : Int32) else (if x0 < (1000000000000 : Int64) then (12 : Int32) else (if x0 < (10000000000000 : Int64) then (13 : Int32) else (if x0 < (100000000000000 : Int64) then (14 : Int32) else (if x0 < (1000000000000000 : Int64) then (15 : Int32) else (if x0 < (10000000000000000 : Int64) then (16 : Int32) else (if x0 < (100000000000000000 : Int64) then (17 : Int32) else (if x0 < (1000000000000000000 : Int64) then (18 : Int32) else (19 : Int32))))))))))))) (fun hc => ?_) (fun hc => ?_)) ?_
              · refine OG.trans (OG.ifYes C d5_17 (tltL hc).1 (by decide) (pc' := 26) (by decide)) ?_
                exact OG.refl
              · refine OG.trans (OG.ifNo C d5_17 (fltL hc).1 (pc' := 20) rfl) ?_
                refine OG.trans (OG.iinc C d5_20 (z := (1 : Int32)) rfl rfl (ls' := #[.val (.long x0), .second, .val (.int (8 : Int32))]) (by rw [show (7 : Int32) + (1 : Int32) = (8 : Int32) by decide]; rfl) (pc' := 23) rfl) ?_
                refine OG.trans (OG.goto C d5_23 (by decide) (pc' := 2) (by decide)) ?_
                refine OG.trans (OG.iloadN C d5_2 rfl (pc' := 3) rfl) ?_
                refine OG.trans (OG.getS C (host := "") (Or.inl (w20 hw)) Via.refl S_pw d5_3 (pc' := 6) rfl) ?_
                refine OG.trans (OG.arraylength C A_pw (z := (19 : Int32)) (by first | rfl | decide) d5_6 (pc' := 7) rfl) ?_
                refine OG.trans (OG.icmpNo C d5_7 (tlt (by decide : (8 : Int32) < (19 : Int32))).2.1 (pc' := 10) rfl) ?_
                refine OG.trans (OG.lloadN C d5_10 rfl (pc' := 11) rfl) ?_
                refine OG.trans (OG.getS C (host := "") (Or.inl (w20 hw)) Via.refl S_pw d5_11 (pc' := 14) rfl) ?_
                refine OG.trans (OG.iloadN C d5_14 rfl (pc' := 15) rfl) ?_
                refine OG.trans (OG.laload C A_pw (own_ib (n := 19) rfl (by decide)) rfl d5_15 (pc' := 16) rfl) ?_
                refine OG.trans (OG.lcmp C d5_16 (pc' := 17) rfl) ?_
                refine OG.trans (OG.ite (α := Int32) (P := x0 < (100000000 : Int64)) (f := fun v => (mkF m 26 #[.val (.long x0), .second, .val (.int v)] [])) (x := (8 : Int32)) (y := (if x0 < (1000000000 : Int64) then (9 : Int32) else (if x0 < (10000000000 : Int64) then (10 : Int32) else (if x0 < (100000000000 : Int64) then (11 : Int32) else (if x0 < (1000000000000 : Int64) then (12 : Int32) else (if x0 < (10000000000000 : Int64) then (13 : Int32) else (if x0 < (100000000000000 : Int64) then (14 : Int32) else (if x0 < (1000000000000000 : Int64) then (15 : Int32) else (if x0 < (10000000000000000 : Int64) then (16 : Int32) else (if x0 < (100000000000000000 : Int64) then (17 : Int32) else (if x0 < (1000000000000000000 : Int64) then (18 : Int32) else (19 : Int32)))))))))))) (fun hc => ?_) (fun hc => ?_)) ?_
                · refine OG.trans (OG.ifYes C d5_17 (tltL hc).1 (by decide) (pc' := 26) (by decide)) ?_
                  exact OG.refl
                · refine OG.trans (OG.ifNo C d5_17 (fltL hc).1 (pc' := 20) rfl) ?_
                  refine OG.trans (OG.iinc C d5_20 (z := (1 : Int32)) rfl rfl (ls' := #[.val (.long x0), .second, .val (.int (9 : Int32))]) (by rw [show (8 : Int32) + (1 : Int32) = (9 : Int32) by decide]; rfl) (pc' := 23) rfl) ?_
                  refine OG.trans (OG.goto C d5_23 (by decide) (pc' := 2) (by decide)) ?_
                  refine OG.trans (OG.iloadN C d5_2 rfl (pc' := 3) rfl) ?_
                  refine OG.trans (OG.getS C (host := "") (Or.inl (w20 hw)) Via.refl S_pw d5_3 (pc' := 6) rfl) ?_
                  refine OG.trans (OG.arraylength C A_pw (z := (19 : Int32)) (by first | rfl | decide) d5_6 (pc' := 7) rfl) ?_
                  refine OG.trans (OG.icmpNo C d5_7 (tlt (by decide : (9 : Int32) < (19 : Int32))).2.1 (pc' := 10) rfl) ?_
                  refine OG.trans (OG.lloadN C d5_10 rfl (pc' := 11) rfl) ?_
                  refine OG.trans (OG.getS C (host := "") (Or.inl (w20 hw)) Via.refl S_pw d5_11 (pc' := 14) rfl) ?_
                  refine OG.trans (OG.iloadN C d5_14 rfl (pc' := 15) rfl) ?_
                  refine OG.trans (OG.laload C A_pw (own_ib (n := 19) rfl (by decide)) rfl d5_15 (pc' := 16) rfl) ?_
                  refine OG.trans (OG.lcmp C d5_16 (pc' := 17) rfl) ?_
                  refine OG.trans (OG.ite (α := Int32) (P := x0 < (1000000000 : Int64)) (f := fun v => (mkF m 26 #[.val (.long x0), .second, .val (.int v)] [])) (x := (9 : Int32)) (y := (if x0 < (10000000000 : Int64) then (10 : Int32) else (if x0 < (100000000000 : Int64) then (11 : Int32) else (if x0 < (1000000000000 : Int64) then (12 : Int32) else (if x0 < (10000000000000 : Int64) then (13 : Int32) else (if x0 < (100000000000000 : Int64) then (14 : Int32) else (if x0 < (1000000000000000 : Int64) then (15 : Int32) else (if x0 < (10000000000000000 : Int64) then (16 : Int32) else (if x0 < (100000000000000000 : Int64) then (17 : Int32) else (if x0 < (1000000000000000000 : Int64) then (18 : Int32) else (19 : Int32))))))))))) (fun hc => ?_) (fun hc => ?_)) ?_
                  · refine OG.trans (OG.ifYes C d5_17 (tltL hc).1 (by decide) (pc' := 26) (by decide)) ?_
                    exact OG.refl
                  · refine OG.trans (OG.ifNo C d5_17 (fltL hc).1 (pc' := 20) rfl) ?_
                    refine OG.trans (OG.iinc C d5_20 (z := (1 : Int32)) rfl rfl (ls' := #[.val (.long x0), .second, .val (.int (10 : Int32))]) (by rw [show (9 : Int32) + (1 : Int32) = (10 : Int32) by decide]; rfl) (pc' := 23) rfl) ?_
                    refine OG.trans (OG.goto C d5_23 (by decide) (pc' := 2) (by decide)) ?_
                    refine OG.trans (OG.iloadN C d5_2 rfl (pc' := 3) rfl) ?_
                    refine OG.trans (OG.getS C (host := "") (Or.inl (w20 hw)) Via.refl S_pw d5_3 (pc' := 6) rfl) ?_
                    refine OG.trans (OG.arraylength C A_pw (z := (19 : Int32)) (by first | rfl | decide) d5_6 (pc' := 7) rfl) ?_
                    refine OG.trans (OG.icmpNo C d5_7 (tlt (by decide : (10 : Int32) < (19 : Int32))).2.1 (pc' := 10) rfl) ?_
                    refine OG.trans (OG.lloadN C d5_10 rfl (pc' := 11) rfl) ?_
                    refine OG.trans (OG.getS C (host := "") (Or.inl (w20 hw)) Via.refl S_pw d5_11 (pc' := 14) rfl) ?_
                    refine OG.trans (OG.iloadN C d5_14 rfl (pc' := 15) rfl) ?_
                    refine OG.trans (OG.laload C A_pw (own_ib (n := 19) rfl (by decide)) rfl d5_15 (pc' := 16) rfl) ?_
                    refine OG.trans (OG.lcmp C d5_16 (pc' := 17) rfl) ?_
                    refine OG.trans (OG.ite (α := Int32) (P := x0 < (10000000000 : Int64)) (f := fun v => (mkF m 26 #[.val (.long x0), .second, .val (.int v)] [])) (x := (10 : Int32)) (y := (if x0 < (100000000000 : Int64) then (11 : Int32) else (if x0 < (1000000000000 : Int64) then (12 : Int32) else (if x0 < (10000000000000 : Int64) then (13 : Int32) else (if x0 < (100000000000000 : Int64) then (14 : Int32) else (if x0 < (1000000000000000 : Int64) then (15 : Int32) else (if x0 < (10000000000000000 : Int64) then (16 : Int32) else (if x0 < (100000000000000000 : Int64) then (17 : Int32) else (if x0 < (1000000000000000000 : Int64) then (18 : Int32) else (19 : Int32)))))))))) (fun hc => ?_) (fun hc => ?_)) ?_
                    · refine OG.trans (OG.ifYes C d5_17 (tltL hc).1 (by decide) (pc' := 26) (by decide)) ?_
                      exact OG.refl
                    · refine OG.trans (OG.ifNo C d5_17 (fltL hc).1 (pc' := 20) rfl) ?_
                      refine OG.trans (OG.iinc C d5_20 (z := (1 : Int32)) rfl rfl (ls' := #[.val (.long x0), .second, .val (.int (11 : Int32))]) (by rw [show (10 : Int32) + (1 : Int32) = (11 : Int32) by decide]; rfl) (pc' := 23) rfl) ?_
                      refine OG.trans (OG.goto C d5_23 (by decide) (pc' := 2) (by decide)) ?_
                      refine OG.trans (OG.iloadN C d5_2 rfl (pc' := 3) rfl) ?_
                      refine OG.trans (OG.getS C (host := "") (Or.inl (w20 hw)) Via.refl S_pw d5_3 (pc' := 6) rfl) ?_
                      refine OG.trans (OG.arraylength C A_pw (z := (19 : Int32)) (by first | rfl | decide) d5_6 (pc' := 7) rfl) ?_
                      refine OG.trans (OG.icmpNo C d5_7 (tlt (by decide : (11 : Int32) < (19 : Int32))).2.1 (pc' := 10) rfl) ?_
                      refine OG.trans (OG.lloadN C d5_10 rfl (pc' := 11) rfl) ?_
                      refine OG.trans (OG.getS C (host := "") (Or.inl (w20 hw)) Via.refl S_pw d5_11 (pc' := 14) rfl) ?_
                      refine OG.trans (OG.iloadN C d5_14 rfl (pc' := 15) rfl) ?_
                      refine OG.trans (OG.laload C A_pw (own_ib (n := 19) rfl (by decide)) rfl d5_15 (pc' := 16) rfl) ?_
                      refine OG.trans (OG.lcmp C d5_16 (pc' := 17) rfl) ?_
                      refine OG.trans (OG.ite (α := Int32) (P := x0 < (100000000000 : Int64)) (f := fun v => (mkF m 26 #[.val (.long x0), .second, .val (.int v)] [])) (x := (11 : Int32)) (y := (if x0 < (1000000000000 : Int64) then (12 : Int32) else (if x0 < (10000000000000 : Int64) then (13 : Int32) else (if x0 < (100000000000000 : Int64) then (14 : Int32) else (if x0 < (1000000000000000 : Int64) then (15 : Int32) else (if x0 < (10000000000000000 : Int64) then (16 : Int32) else (if x0 < (100000000000000000 : Int64) then (17 : Int32) else (if x0 < (1000000000000000000 : Int64) then (18 : Int32) else (19 : Int32))))))))) (fun hc => ?_) (fun hc => ?_)) ?_
                      · refine OG.trans (OG.ifYes C d5_17 (tltL hc).1 (by decide) (pc' := 26) (by decide)) ?_
                        exact OG.refl
                      · refine OG.trans (OG.ifNo C d5_17 (fltL hc).1 (pc' := 20) rfl) ?_
                        refine OG.trans (OG.iinc C d5_20 (z := (1 : Int32)) rfl rfl (ls' := #[.val (.long x0), .second, .val (.int (12 : Int32))]) (by rw [show (11 : Int32) + (1 : Int32) = (12 : Int32) by decide]; rfl) (pc' := 23) rfl) ?_
                        refine OG.trans (OG.goto C d5_23 (by decide) (pc' := 2) (by decide)) ?_
                        refine OG.trans (OG.iloadN C d5_2 rfl (pc' := 3) rfl) ?_
                        refine OG.trans (OG.getS C (host := "") (Or.inl (w20 hw)) Via.refl S_pw d5_3 (pc' := 6) rfl) ?_
                        refine OG.trans (OG.arraylength C A_pw (z := (19 : Int32)) (by first | rfl | decide) d5_6 (pc' := 7) rfl) ?_
                        refine OG.trans (OG.icmpNo C d5_7 (tlt (by decide : (12 : Int32) < (19 : Int32))).2.1 (pc' := 10) rfl) ?_
                        refine OG.trans (OG.lloadN C d5_10 rfl (pc' := 11) rfl) ?_
                        refine OG.trans (OG.getS C (host := "") (Or.inl (w20 hw)) Via.refl S_pw d5_11 (pc' := 14) rfl) ?_
                        refine OG.trans (OG.iloadN C d5_14 rfl (pc' := 15) rfl) ?_
                        refine OG.trans (OG.laload C A_pw (own_ib (n := 19) rfl (by decide)) rfl d5_15 (pc' := 16) rfl) ?_
                        refine OG.trans (OG.lcmp C d5_16 (pc' := 17) rfl) ?_
                        refine OG.trans (OG.ite (α := Int32) (P := x0 < (1000000000000 : Int64)) (f := fun v => (mkF m 26 #[.val (.long x0), .second, .val (.int v)] [])) (x := (12 : Int32)) (y := (if x0 < (10000000000000 : Int64) then (13 : Int32) else (if x0 < (100000000000000 : Int64) then (14 : Int32) else (if x0 < (1000000000000000 : Int64) then (15 : Int32) else (if x0 < (10000000000000000 : Int64) then (16 : Int32) else (if x0 < (100000000000000000 : Int64) then (17 : Int32) else (if x0 < (1000000000000000000 : Int64) then (18 : Int32) else (19 : Int32)))))))) (fun hc => ?_) (fun hc => ?_)) ?_
                        · refine OG.trans (OG.ifYes C d5_17 (tltL hc).1 (by decide) (pc' := 26) (by decide)) ?_
                          exact OG.refl
                        · refine OG.trans (OG.ifNo C d5_17 (fltL hc).1 (pc' := 20) rfl) ?_
                          refine OG.trans (OG.iinc C d5_20 (z := (1 : Int32)) rfl rfl (ls' := #[.val (.long x0), .second, .val (.int (13 : Int32))]) (by rw [show (12 : Int32) + (1 : Int32) = (13 : Int32) by decide]; rfl) (pc' := 23) rfl) ?_
                          refine OG.trans (OG.goto C d5_23 (by decide) (pc' := 2) (by decide)) ?_
                          refine OG.trans (OG.iloadN C d5_2 rfl (pc' := 3) rfl) ?_
                          refine OG.trans (OG.getS C (host := "") (Or.inl (w20 hw)) Via.refl S_pw d5_3 (pc' := 6) rfl) ?_
                          refine OG.trans (OG.arraylength C A_pw (z := (19 : Int32)) (by first | rfl | decide) d5_6 (pc' := 7) rfl) ?_
                          refine OG.trans (OG.icmpNo C d5_7 (tlt (by decide : (13 : Int32) < (19 : Int32))).2.1 (pc' := 10) rfl) ?_
                          refine OG.trans (OG.lloadN C d5_10 rfl (pc' := 11) rfl) ?_
                          refine OG.trans (OG.getS C (host := "") (Or.inl (w20 hw)) Via.refl S_pw d5_11 (pc' := 14) rfl) ?_
                          refine OG.trans (OG.iloadN C d5_14 rfl (pc' := 15) rfl) ?_
                          refine OG.trans (OG.laload C A_pw (own_ib (n := 19) rfl (by decide)) rfl d5_15 (pc' := 16) rfl) ?_
                          refine OG.trans (OG.lcmp C d5_16 (pc' := 17) rfl) ?_
                          refine OG.trans (OG.ite (α := Int32) (P := x0 < (10000000000000 : Int64)) (f := fun v => (mkF m 26 #[.val (.long x0), .second, .val (.int v)] [])) (x := (13 : Int32)) (y := (if x0 < (100000000000000 : Int64) then (14 : Int32) else (if x0 < (1000000000000000 : Int64) then (15 : Int32) else (if x0 < (10000000000000000 : Int64) then (16 : Int32) else (if x0 < (100000000000000000 : Int64) then (17 : Int32) else (if x0 < (1000000000000000000 : Int64) then (18 : Int32) else (19 : Int32))))))) (fun hc => ?_) (fun hc => ?_)) ?_
                          · refine OG.trans (OG.ifYes C d5_17 (tltL hc).1 (by decide) (pc' := 26) (by decide)) ?_
                            exact OG.refl
                          · refine OG.trans (OG.ifNo C d5_17 (fltL hc).1 (pc' := 20) rfl) ?_
                            refine OG.trans (OG.iinc C d5_20 (z := (1 : Int32)) rfl rfl (ls' := #[.val (.long x0), .second, .val (.int (14 : Int32))]) (by rw [show (13 : Int32) + (1 : Int32) = (14 : Int32) by decide]; rfl) (pc' := 23) rfl) ?_
                            refine OG.trans (OG.goto C d5_23 (by decide) (pc' := 2) (by decide)) ?_
                            refine OG.trans (OG.iloadN C d5_2 rfl (pc' := 3) rfl) ?_
                            refine OG.trans (OG.getS C (host := "") (Or.inl (w20 hw)) Via.refl S_pw d5_3 (pc' := 6) rfl) ?_
                            refine OG.trans (OG.arraylength C A_pw (z := (19 : Int32)) (by first | rfl | decide) d5_6 (pc' := 7) rfl) ?_
                            refine OG.trans (OG.icmpNo C d5_7 (tlt (by decide : (14 : Int32) < (19 : Int32))).2.1 (pc' := 10) rfl) ?_
                            refine OG.trans (OG.lloadN C d5_10 rfl (pc' := 11) rfl) ?_
                            refine OG.trans (OG.getS C (host := "") (Or.inl (w20 hw)) Via.refl S_pw d5_11 (pc' := 14) rfl) ?_
                            refine OG.trans (OG.iloadN C d5_14 rfl (pc' := 15) rfl) ?_
                            refine OG.trans (OG.laload C A_pw (own_ib (n := 19) rfl (by decide)) rfl d5_15 (pc' := 16) rfl) ?_
                            refine OG.trans (OG.lcmp C d5_16 (pc' := 17) rfl) ?_
                            refine OG.trans (OG.ite (α := Int32) (P := x0 < (100000000000000 : Int64)) (f := fun v => (mkF m 26 #[.val (.long x0), .second, .val (.int v)] [])) (x := (14 : Int32)) (y := (if x0 < (1000000000000000 : Int64) then (15 : Int32) else (if x0 < (10000000000000000 : Int64) then (16 : Int32) else (if x0 < (100000000000000000 : Int64) then (17 : Int32) else (if x0 < (1000000000000000000 : Int64) then (18 : Int32) else (19 : Int32)))))) (fun hc => ?_) (fun hc => ?_)) ?_
                            · refine OG.trans (OG.ifYes C d5_17 (tltL hc).1 (by decide) (pc' := 26) (by decide)) ?_
                              exact OG.refl
                            · refine OG.trans (OG.ifNo C d5_17 (fltL hc).1 (pc' := 20) rfl) ?_
                              refine OG.trans (OG.iinc C d5_20 (z := (1 : Int32)) rfl rfl (ls' := #[.val (.long x0), .second, .val (.int (15 : Int32))]) (by rw [show (14 : Int32) + (1 : Int32) = (15 : Int32) by decide]; rfl) (pc' := 23) rfl) ?_
                              refine OG.trans (OG.goto C d5_23 (by decide) (pc' := 2) (by decide)) ?_
                              refine OG.trans (OG.iloadN C d5_2 rfl (pc' := 3) rfl) ?_
                              refine OG.trans (OG.getS C (host := "") (Or.inl (w20 hw)) Via.refl S_pw d5_3 (pc' := 6) rfl) ?_
                              refine OG.trans (OG.arraylength C A_pw (z := (19 : Int32)) (by first | rfl | decide) d5_6 (pc' := 7) rfl) ?_
                              refine OG.trans (OG.icmpNo C d5_7 (tlt (by decide : (15 : Int32) < (19 : Int32))).2.1 (pc' := 10) rfl) ?_
                              refine OG.trans (OG.lloadN C d5_10 rfl (pc' := 11) rfl) ?_
                              refine OG.trans (OG.getS C (host := "") (Or.inl (w20 hw)) Via.refl S_pw d5_11 (pc' := 14) rfl) ?_
                              refine OG.trans (OG.iloadN C d5_14 rfl (pc' := 15) rfl) ?_
                              refine OG.trans (OG.laload C A_pw (own_ib (n := 19) rfl (by decide)) rfl d5_15 (pc' := 16) rfl) ?_
                              refine OG.trans (OG.lcmp C d5_16 (pc' := 17) rfl) ?_
                              refine OG.trans (OG.ite (α := Int32) (P := x0 < (1000000000000000 : Int64)) (f := fun v => (mkF m 26 #[.val (.long x0), .second, .val (.int v)] [])) (x := (15 : Int32)) (y := (if x0 < (10000000000000000 : Int64) then (16 : Int32) else (if x0 < (100000000000000000 : Int64) then (17 : Int32) else (if x0 < (1000000000000000000 : Int64) then (18 : Int32) else (19 : Int32))))) (fun hc => ?_) (fun hc => ?_)) ?_
                              · refine OG.trans (OG.ifYes C d5_17 (tltL hc).1 (by decide) (pc' := 26) (by decide)) ?_
                                exact OG.refl
                              · refine OG.trans (OG.ifNo C d5_17 (fltL hc).1 (pc' := 20) rfl) ?_
                                refine OG.trans (OG.iinc C d5_20 (z := (1 : Int32)) rfl rfl (ls' := #[.val (.long x0), .second, .val (.int (16 : Int32))]) (by rw [show (15 : Int32) + (1 : Int32) = (16 : Int32) by decide]; rfl) (pc' := 23) rfl) ?_
                                refine OG.trans (OG.goto C d5_23 (by decide) (pc' := 2) (by decide)) ?_
                                refine OG.trans (OG.iloadN C d5_2 rfl (pc' := 3) rfl) ?_
                                refine OG.trans (OG.getS C (host := "") (Or.inl (w20 hw)) Via.refl S_pw d5_3 (pc' := 6) rfl) ?_
                                refine OG.trans (OG.arraylength C A_pw (z := (19 : Int32)) (by first | rfl | decide) d5_6 (pc' := 7) rfl) ?_
                                refine OG.trans (OG.icmpNo C d5_7 (tlt (by decide : (16 : Int32) < (19 : Int32))).2.1 (pc' := 10) rfl) ?_
                                refine OG.trans (OG.lloadN C d5_10 rfl (pc' := 11) rfl) ?_
                                refine OG.trans (OG.getS C (host := "") (Or.inl (w20 hw)) Via.refl S_pw d5_11 (pc' := 14) rfl) ?_
                                refine OG.trans (OG.iloadN C d5_14 rfl (pc' := 15) rfl) ?_
                                refine OG.trans (OG.laload C A_pw (own_ib (n := 19) rfl (by decide)) rfl d5_15 (pc' := 16) rfl) ?_
                                refine OG.trans (OG.lcmp C d5_16 (pc' := 17) rfl) ?_
                                refine OG.trans (OG.ite (α := Int32) (P := x0 < (10000000000000000 : Int64)) (f := fun v => (mkF m 26 #[.val (.long x0), .second, .val (.int v)] [])) (x := (16 : Int32)) (y := (if x0 < (100000000000000000 : Int64) then (17 : Int32) else (if x0 < (1000000000000000000 : Int64) then (18 : Int32) else (19 : Int32)))) (fun hc => ?_) (fun hc => ?_)) ?_
                                · refine OG.trans (OG.ifYes C d5_17 (tltL hc).1 (by decide) (pc' := 26) (by decide)) ?_
                                  exact OG.refl
                                · refine OG.trans (OG.ifNo C d5_17 (fltL hc).1 (pc' := 20) rfl) ?_
                                  refine OG.trans (OG.iinc C d5_20 (z := (1 : Int32)) rfl rfl (ls' := #[.val (.long x0), .second, .val (.int (17 : Int32))]) (by rw [show (16 : Int32) + (1 : Int32) = (17 : Int32) by decide]; rfl) (pc' := 23) rfl) ?_
                                  refine OG.trans (OG.goto C d5_23 (by decide) (pc' := 2) (by decide)) ?_
                                  refine OG.trans (OG.iloadN C d5_2 rfl (pc' := 3) rfl) ?_
                                  refine OG.trans (OG.getS C (host := "") (Or.inl (w20 hw)) Via.refl S_pw d5_3 (pc' := 6) rfl) ?_
                                  refine OG.trans (OG.arraylength C A_pw (z := (19 : Int32)) (by first | rfl | decide) d5_6 (pc' := 7) rfl) ?_
                                  refine OG.trans (OG.icmpNo C d5_7 (tlt (by decide : (17 : Int32) < (19 : Int32))).2.1 (pc' := 10) rfl) ?_
                                  refine OG.trans (OG.lloadN C d5_10 rfl (pc' := 11) rfl) ?_
                                  refine OG.trans (OG.getS C (host := "") (Or.inl (w20 hw)) Via.refl S_pw d5_11 (pc' := 14) rfl) ?_
                                  refine OG.trans (OG.iloadN C d5_14 rfl (pc' := 15) rfl) ?_
                                  refine OG.trans (OG.laload C A_pw (own_ib (n := 19) rfl (by decide)) rfl d5_15 (pc' := 16) rfl) ?_
                                  refine OG.trans (OG.lcmp C d5_16 (pc' := 17) rfl) ?_
                                  refine OG.trans (OG.ite (α := Int32) (P := x0 < (100000000000000000 : Int64)) (f := fun v => (mkF m 26 #[.val (.long x0), .second, .val (.int v)] [])) (x := (17 : Int32)) (y := (if x0 < (1000000000000000000 : Int64) then (18 : Int32) else (19 : Int32))) (fun hc => ?_) (fun hc => ?_)) ?_
                                  · refine OG.trans (OG.ifYes C d5_17 (tltL hc).1 (by decide) (pc' := 26) (by decide)) ?_
                                    exact OG.refl
                                  · refine OG.trans (OG.ifNo C d5_17 (fltL hc).1 (pc' := 20) rfl) ?_
                                    refine OG.trans (OG.iinc C d5_20 (z := (1 : Int32)) rfl rfl (ls' := #[.val (.long x0), .second, .val (.int (18 : Int32))]) (by rw [show (17 : Int32) + (1 : Int32) = (18 : Int32) by decide]; rfl) (pc' := 23) rfl) ?_
                                    refine OG.trans (OG.goto C d5_23 (by decide) (pc' := 2) (by decide)) ?_
                                    refine OG.trans (OG.iloadN C d5_2 rfl (pc' := 3) rfl) ?_
                                    refine OG.trans (OG.getS C (host := "") (Or.inl (w20 hw)) Via.refl S_pw d5_3 (pc' := 6) rfl) ?_
                                    refine OG.trans (OG.arraylength C A_pw (z := (19 : Int32)) (by first | rfl | decide) d5_6 (pc' := 7) rfl) ?_
                                    refine OG.trans (OG.icmpNo C d5_7 (tlt (by decide : (18 : Int32) < (19 : Int32))).2.1 (pc' := 10) rfl) ?_
                                    refine OG.trans (OG.lloadN C d5_10 rfl (pc' := 11) rfl) ?_
                                    refine OG.trans (OG.getS C (host := "") (Or.inl (w20 hw)) Via.refl S_pw d5_11 (pc' := 14) rfl) ?_
                                    refine OG.trans (OG.iloadN C d5_14 rfl (pc' := 15) rfl) ?_
                                    refine OG.trans (OG.laload C A_pw (own_ib (n := 19) rfl (by decide)) rfl d5_15 (pc' := 16) rfl) ?_
                                    refine OG.trans (OG.lcmp C d5_16 (pc' := 17) rfl) ?_
                                    refine OG.trans (OG.ite (α := Int32) (P := x0 < (1000000000000000000 : Int64)) (f := fun v => (mkF m 26 #[.val (.long x0), .second, .val (.int v)] [])) (x := (18 : Int32)) (y := (19 : Int32)) (fun hc => ?_) (fun hc => ?_)) ?_
                                    · refine OG.trans (OG.ifYes C d5_17 (tltL hc).1 (by decide) (pc' := 26) (by decide)) ?_
                                      exact OG.refl
                                    · refine OG.trans (OG.ifNo C d5_17 (fltL hc).1 (pc' := 20) rfl) ?_
                                      refine OG.trans (OG.iinc C d5_20 (z := (1 : Int32)) rfl rfl (ls' := #[.val (.long x0), .second, .val (.int (19 : Int32))]) (by rw [show (18 : Int32) + (1 : Int32) = (19 : Int32) by decide]; rfl) (pc' := 23) rfl) ?_
                                      refine OG.trans (OG.goto C d5_23 (by decide) (pc' := 2) (by decide)) ?_
                                      refine OG.trans (OG.iloadN C d5_2 rfl (pc' := 3) rfl) ?_
                                      refine OG.trans (OG.getS C (host := "") (Or.inl (w20 hw)) Via.refl S_pw d5_3 (pc' := 6) rfl) ?_
                                      refine OG.trans (OG.arraylength C A_pw (z := (19 : Int32)) (by first | rfl | decide) d5_6 (pc' := 7) rfl) ?_
                                      refine OG.trans (OG.icmpYes C d5_7 (flt (by decide : ¬ ((19 : Int32) < (19 : Int32)))).2.1 (by decide) (pc' := 26) (by decide)) ?_
                                      exact OG.refl
                                    exact OG.refl
                                  exact OG.refl
                                exact OG.refl
                              exact OG.refl
                            exact OG.refl
                          exact OG.refl
                        exact OG.refl
                      exact OG.refl
                    exact OG.refl
                  exact OG.refl
                exact OG.refl
              exact OG.refl
            exact OG.refl
          exact OG.refl
        exact OG.refl
      exact OG.refl
    exact OG.refl
  refine OG.ow (OG.iloadN C d5_26 rfl (pc' := 27) rfl) ?_
  refine OW.retI C d5_27 (by decide) (by decide) ?_
  refine ⟨congrArg (fun z => some (Value.int z)) ?_, rfl⟩
  show _ = F5 x0
  rfl
theorem d6_0 : decode jdk_29_method_69_code 0 = .ok (.iload_n 0, 1) := by decide +kernel
theorem d6_1 : decode jdk_29_method_69_code 1 = .ok (.iload_n 1, 1) := by decide +kernel
theorem d6_2 : decode jdk_29_method_69_code 2 = .ok (.if_icmp .gt 7, 3) := by decide +kernel
theorem d6_5 : decode jdk_29_method_69_code 5 = .ok (.iload_n 0, 1) := by decide +kernel
theorem d6_6 : decode jdk_29_method_69_code 6 = .ok (.goto 4, 3) := by decide +kernel
theorem d6_9 : decode jdk_29_method_69_code 9 = .ok (.iload_n 1, 1) := by decide +kernel
theorem d6_10 : decode jdk_29_method_69_code 10 = .ok (.ireturn, 1) := by decide +kernel
def F6 (x0 : Int32) (x1 : Int32) : Int32 := (if x1 < x0 then x1 else x0)
set_option maxRecDepth 65536 in
set_option maxHeartbeats 40000000 in
theorem b6 {l : Launch} {Z : State} {a0 : Array Value} (hw : HW a0 Z) (x0 : Int32) (x1 : Int32) {n0 : Nat} {h : Heap}  : OM l Z (⟨"java/lang/Math", "min", "(II)I"⟩ : MethodName) jdk_29_method_69_code 2 (some .int) ⟨0, 0, 0, 0⟩ n0 h #[(.int x0), (.int x1)] (fun v h' => v = some (.int (F6 x0 x1)) ∧ h' = h) 0 0 := by
  refine OM.of_body (ls := #[.val (.int x0), .val (.int x1)]) (by decide +kernel) (fun m => by first | (simp [entryFrame, mkF, argsToLocals, Value.category]; done) | rfl) ?_
  intro p e s m below meth c C
  refine OG.ow (OG.iloadN C d6_0 rfl (pc' := 1) rfl) ?_
  refine OG.ow (OG.iloadN C d6_1 rfl (pc' := 2) rfl) ?_
  refine OG.ow (OG.ite (α := Int32) (P := x1 < x0) (f := fun v => (mkF m 10 #[.val (.int x0), .val (.int x1)] [(.int v)])) (x := x1) (y := x0) (fun hc => ?_) (fun hc => ?_)) ?_
  · refine OG.trans (OG.icmpYes C d6_2 (tlt hc).2.2.1 (by decide) (pc' := 9) (by decide)) ?_
    refine OG.trans (OG.iloadN C d6_9 rfl (pc' := 10) rfl) ?_
    exact OG.refl
  · refine OG.trans (OG.icmpNo C d6_2 (flt hc).2.2.1 (pc' := 5) rfl) ?_
    refine OG.trans (OG.iloadN C d6_5 rfl (pc' := 6) rfl) ?_
    refine OG.trans (OG.goto C d6_6 (by decide) (pc' := 10) (by decide)) ?_
    exact OG.refl
  refine OW.retI C d6_10 (by decide) (by decide) ?_
  refine ⟨congrArg (fun z => some (Value.int z)) ?_, rfl⟩
  show _ = F6 x0 x1
  rfl
theorem own_r0 : R9 (0 : Int64) := by unfold R9; decide
theorem own_r1 : R9 (1 : Int64) := by unfold R9; decide
def CB (c : Int64) : Prop := 0 ≤ c.toInt ∧ c.toInt ≤ 2000000000
theorem own_cb {c : Int64} (h : R9 c) : CB c := ⟨h.1, by have := h.2; omega⟩
theorem own_sh {l p c t : Int64} (r : R9 l) (hp : 1 ≤ p.toInt ∧ p.toInt ≤ 1000000000) (hc : CB c) (ht : l * p + c = t) : R9 (t % (1000000000 : Int64)) ∧ CB (t / (1000000000 : Int64)) := by
  obtain ⟨L, hl, hL⟩ := r.nat
  obtain ⟨P, hp', hP⟩ : ∃ P : Nat, p.toInt = P ∧ P ≤ 1000000000 := ⟨p.toInt.toNat, by omega, by omega⟩
  obtain ⟨Cc, hc', hC⟩ : ∃ P : Nat, c.toInt = P ∧ P ≤ 2000000000 := ⟨c.toInt.toNat, by have := hc.1; omega, by have := hc.1; have := hc.2; omega⟩
  have hb : L * P ≤ 999999999 * 1000000000 := Nat.mul_le_mul (by omega) hP
  have h1 := n_mul hl hp' (by unfold MX; omega)
  have h2 := n_add h1 hc' (by unfold MX; omega)
  rw [ht] at h2
  have e : (1000000000 : Int64).toInt = ((1000000000 : Nat) : Int) := by decide
  have h3 := n_rem h2 e
  have h4 := n_div h2 e
  generalize L * P = W at *
  unfold R9 CB
  rw [h3, h4]; omega
def C9 (c : Int64) : Prop := 0 ≤ c.toInt ∧ c.toInt ≤ 9
theorem own_c0 : C9 (0 : Int64) := by unfold C9; decide
theorem own_so {c l t : Int64} (hc : C9 c) (r : R9 l) (ht : c * (1000000000 : Int64) + l = t) : R9 (t / (10 : Int64)) ∧ C9 (t % (10 : Int64)) := by
  obtain ⟨L, hl, hL⟩ := r.nat
  obtain ⟨Cc, hc', hC⟩ : ∃ P : Nat, c.toInt = P ∧ P ≤ 9 := ⟨c.toInt.toNat, by have := hc.1; omega, by have := hc.1; have := hc.2; omega⟩
  have e : (1000000000 : Int64).toInt = ((1000000000 : Nat) : Int) := by decide
  have e10 : (10 : Int64).toInt = ((10 : Nat) : Int) := by decide
  have h1 := n_mul hc' e (by unfold MX; omega)
  have h2 := n_add h1 hl (by unfold MX; omega)
  rw [ht] at h2
  have h3 := n_rem h2 e10
  have h4 := n_div h2 e10
  unfold R9 C9
  rw [h3, h4]; omega
theorem own_l2 {x11 : Int32} {n : Nat} (hn : x11.toInt.toNat < n + 1) (hc : (0 : Int32) < x11) : (x11 + (-1 : Int32)).toInt.toNat < n := by
  rw [Int32.lt_iff_toInt_lt] at hc
  have e0 : (0 : Int32).toInt = 0 := by decide
  have e1 : (-1 : Int32).toInt = -1 := by decide
  have h1 := c_iadd x11 (-1)
  have h2 := rng32 (x11 + (-1 : Int32))
  have h3 := rng32 x11
  omega
def MEA (x3 rm : Int64) (x10 : Int32) : Nat := if x10.toInt ≤ 0 then 100 + (x3.toInt - rm.toInt).toNat else (34 - x10.toInt).toNat
def INV (x3 rm : Int64) (x10 : Int32) : Prop := 0 ≤ rm.toInt ∧ rm.toInt < x3.toInt ∧ 0 ≤ x10.toInt
theorem own_x12 {x3 rm : Int64} {x9 x10 z12 : Int32} (H9 : 1 ≤ x9.toInt ∧ x9.toInt ≤ 9 ∧ x3.toInt * 10 ^ x9.toInt.toNat ≤ 10 ^ 18) (I1 : INV x3 rm x10) (hc : x10 < (34 : Int32)) (g : (if x10 = (0 : Int32) then x9 else (F6 x9 ((34 : Int32) - x10))) = z12) : 1 ≤ z12.toInt ∧ z12.toInt ≤ x9.toInt := by
  subst g
  rw [Int32.lt_iff_toInt_lt] at hc
  have e34 : (34 : Int32).toInt = 34 := by decide
  have h0 := I1.2.2
  split
  · exact ⟨H9.1, Int.le_refl _⟩
  · unfold F6
    have h1 := c_isub (34 : Int32) x10
    have h2 := rng32 ((34 : Int32) - x10)
    split
    · rename_i q
      rw [Int32.lt_iff_toInt_lt] at q
      have := H9.1
      omega
    · exact ⟨H9.1, Int.le_refl _⟩
theorem own_nz1 {x : Int64} (h : 1 ≤ x.toInt) : x ≠ 0 := fun q => by
  subst q
  have e : (0 : Int64).toInt = 0 := by decide
  omega
theorem own_nz {x : Int64} {k : Nat} (h : x.toInt = ((10 ^ k : Nat) : Int)) : x ≠ 0 := by
  have : 1 ≤ 10 ^ k := Nat.pow_pos (by decide)
  exact own_nz1 (by omega)
theorem own_turn {x3 rm pz t13 d15 rm2 : Int64} {x9 x10 z12 : Int32} (H3 : 1 ≤ x3.toInt) (H9 : 1 ≤ x9.toInt ∧ x9.toInt ≤ 9 ∧ x3.toInt * 10 ^ x9.toInt.toNat ≤ 10 ^ 18) (I1 : INV x3 rm x10) (hc : ¬ rm = (0 : Int64)) (j1 : 1 ≤ z12.toInt) (j2 : z12.toInt ≤ x9.toInt) (pz2 : pz.toInt = ((10 ^ z12.toInt.toNat : Nat) : Int)) (g13 : rm * pz = t13) (g15 : t13 / x3 = d15) (g7 : t13 % x3 = rm2) :
    (1 ≤ pz.toInt ∧ pz.toInt ≤ 1000000000) ∧ R9 d15 ∧ (0 ≤ rm2.toInt ∧ rm2.toInt < x3.toInt) ∧ (d15.toInt ≤ 0 → rm.toInt < rm2.toInt) := by
  obtain ⟨X3, hx3⟩ : ∃ n : Nat, x3.toInt = n := ⟨x3.toInt.toNat, by omega⟩
  obtain ⟨RM, hrm⟩ : ∃ n : Nat, rm.toInt = n := ⟨rm.toInt.toNat, by have := I1.1; omega⟩
  have hlt : RM < X3 := by have := I1.2.1; omega
  have hpos : 1 ≤ RM := by
    have : ¬ RM = 0 := fun q => hc (by rw [← Int64.toInt_inj, hrm, q]; decide)
    omega
  have hP1 : 10 ^ 1 ≤ 10 ^ z12.toInt.toNat := p10_le (by omega)
  have hP2 : 10 ^ z12.toInt.toNat ≤ 10 ^ 9 := p10_le (by omega)
  have hP3 : 10 ^ z12.toInt.toNat ≤ 10 ^ x9.toInt.toNat := p10_le (by omega)
  have hX : X3 * 10 ^ x9.toInt.toNat ≤ 10 ^ 18 := by
    have := H9.2.2
    rw [hx3] at this
    have e : (X3 : Int) * 10 ^ x9.toInt.toNat = ((X3 * 10 ^ x9.toInt.toNat : Nat) : Int) := by simp
    rw [e] at this
    exact_mod_cast this
  generalize 10 ^ x9.toInt.toNat = P9 at *
  generalize 10 ^ z12.toInt.toNat = P at *
  have hm : RM * P ≤ X3 * P9 := Nat.mul_le_mul (Nat.le_of_lt hlt) hP3
  have ht := n_mul hrm pz2 (by unfold MX; omega)
  rw [g13] at ht
  have hd := n_div ht hx3
  have hr := n_rem ht hx3
  rw [g15] at hd
  rw [g7] at hr
  have hdl : RM * P / X3 < P := Nat.div_lt_of_lt_mul (Nat.mul_lt_mul_of_pos_right hlt (by omega))
  have hrl : RM * P % X3 < X3 := Nat.mod_lt _ (by omega)
  have hz : RM * P / X3 = 0 → RM < RM * P % X3 := fun q => by
    have h1 : RM * P < X3 := by
      rcases Nat.div_eq_zero_iff.mp q with z | z <;> omega
    rw [Nat.mod_eq_of_lt h1]
    have : RM * 10 ≤ RM * P := Nat.mul_le_mul_left _ (by omega)
    omega
  generalize RM * P / X3 = DD at *
  generalize RM * P % X3 = RR at *
  refine ⟨⟨by omega, by omega⟩, ⟨by omega, by omega⟩, ⟨by omega, by omega⟩, fun q => ?_⟩
  have := hz (by omega)
  omega
theorem dg_spec (x : Int64) : ∃ d : Nat, (F5 x).toInt = d ∧ 1 ≤ d ∧ d ≤ 19 ∧ (x.toInt < 10 ^ 17 → d ≤ 17 ∧ x.toInt < ((10 ^ d : Nat) : Int)) := by
  generalize hD : F5 x = D
  unfold F5 at hD
  simp only [Int64.lt_iff_toInt_lt, show (10 : Int64).toInt = 10 by decide, show (100 : Int64).toInt = 100 by decide, show (1000 : Int64).toInt = 1000 by decide, show (10000 : Int64).toInt = 10000 by decide, show (100000 : Int64).toInt = 100000 by decide, show (1000000 : Int64).toInt = 1000000 by decide, show (10000000 : Int64).toInt = 10000000 by decide, show (100000000 : Int64).toInt = 100000000 by decide, show (1000000000 : Int64).toInt = 1000000000 by decide, show (10000000000 : Int64).toInt = 10000000000 by decide, show (100000000000 : Int64).toInt = 100000000000 by decide, show (1000000000000 : Int64).toInt = 1000000000000 by decide, show (10000000000000 : Int64).toInt = 10000000000000 by decide, show (100000000000000 : Int64).toInt = 100000000000000 by decide, show (1000000000000000 : Int64).toInt = 1000000000000000 by decide, show (10000000000000000 : Int64).toInt = 10000000000000000 by decide, show (100000000000000000 : Int64).toInt = 100000000000000000 by decide, show (1000000000000000000 : Int64).toInt = 1000000000000000000 by decide] at hD
  generalize x.toInt = X at *
  by_cases c1 : X < 10
  · rw [if_pos c1] at hD; subst hD; exact ⟨1, by decide, by decide, by decide, fun q => ⟨by omega, by omega⟩⟩
  rw [if_neg c1] at hD
  by_cases c2 : X < 100
  · rw [if_pos c2] at hD; subst hD; exact ⟨2, by decide, by decide, by decide, fun q => ⟨by omega, by omega⟩⟩
  rw [if_neg c2] at hD
  by_cases c3 : X < 1000
  · rw [if_pos c3] at hD; subst hD; exact ⟨3, by decide, by decide, by decide, fun q => ⟨by omega, by omega⟩⟩
  rw [if_neg c3] at hD
  by_cases c4 : X < 10000
  · rw [if_pos c4] at hD; subst hD; exact ⟨4, by decide, by decide, by decide, fun q => ⟨by omega, by omega⟩⟩
  rw [if_neg c4] at hD
  by_cases c5 : X < 100000
  · rw [if_pos c5] at hD; subst hD; exact ⟨5, by decide, by decide, by decide, fun q => ⟨by omega, by omega⟩⟩
  rw [if_neg c5] at hD
  by_cases c6 : X < 1000000
  · rw [if_pos c6] at hD; subst hD; exact ⟨6, by decide, by decide, by decide, fun q => ⟨by omega, by omega⟩⟩
  rw [if_neg c6] at hD
  by_cases c7 : X < 10000000
  · rw [if_pos c7] at hD; subst hD; exact ⟨7, by decide, by decide, by decide, fun q => ⟨by omega, by omega⟩⟩
  rw [if_neg c7] at hD
  by_cases c8 : X < 100000000
  · rw [if_pos c8] at hD; subst hD; exact ⟨8, by decide, by decide, by decide, fun q => ⟨by omega, by omega⟩⟩
  rw [if_neg c8] at hD
  by_cases c9 : X < 1000000000
  · rw [if_pos c9] at hD; subst hD; exact ⟨9, by decide, by decide, by decide, fun q => ⟨by omega, by omega⟩⟩
  rw [if_neg c9] at hD
  by_cases c10 : X < 10000000000
  · rw [if_pos c10] at hD; subst hD; exact ⟨10, by decide, by decide, by decide, fun q => ⟨by omega, by omega⟩⟩
  rw [if_neg c10] at hD
  by_cases c11 : X < 100000000000
  · rw [if_pos c11] at hD; subst hD; exact ⟨11, by decide, by decide, by decide, fun q => ⟨by omega, by omega⟩⟩
  rw [if_neg c11] at hD
  by_cases c12 : X < 1000000000000
  · rw [if_pos c12] at hD; subst hD; exact ⟨12, by decide, by decide, by decide, fun q => ⟨by omega, by omega⟩⟩
  rw [if_neg c12] at hD
  by_cases c13 : X < 10000000000000
  · rw [if_pos c13] at hD; subst hD; exact ⟨13, by decide, by decide, by decide, fun q => ⟨by omega, by omega⟩⟩
  rw [if_neg c13] at hD
  by_cases c14 : X < 100000000000000
  · rw [if_pos c14] at hD; subst hD; exact ⟨14, by decide, by decide, by decide, fun q => ⟨by omega, by omega⟩⟩
  rw [if_neg c14] at hD
  by_cases c15 : X < 1000000000000000
  · rw [if_pos c15] at hD; subst hD; exact ⟨15, by decide, by decide, by decide, fun q => ⟨by omega, by omega⟩⟩
  rw [if_neg c15] at hD
  by_cases c16 : X < 10000000000000000
  · rw [if_pos c16] at hD; subst hD; exact ⟨16, by decide, by decide, by decide, fun q => ⟨by omega, by omega⟩⟩
  rw [if_neg c16] at hD
  by_cases c17 : X < 100000000000000000
  · rw [if_pos c17] at hD; subst hD; exact ⟨17, by decide, by decide, by decide, fun q => ⟨by omega, by omega⟩⟩
  rw [if_neg c17] at hD
  by_cases c18 : X < 1000000000000000000
  · rw [if_pos c18] at hD; subst hD; exact ⟨18, by decide, by decide, by decide, fun q => ⟨by omega, by omega⟩⟩
  rw [if_neg c18] at hD
  subst hD; exact ⟨19, by decide, by decide, by decide, fun q => ⟨by omega, by omega⟩⟩
theorem own_i1 {x3 rm rm2 : Int64} {x9 x10 z12 : Int32} {n : Nat} (hn : MEA x3 rm x10 < n + 1) (I1 : INV x3 rm x10) (hc : x10 < (34 : Int32)) (hx : (0 : Int32) < x10) (j1 : 1 ≤ z12.toInt) (j2 : z12.toInt ≤ x9.toInt) (H9 : 1 ≤ x9.toInt ∧ x9.toInt ≤ 9 ∧ x3.toInt * 10 ^ x9.toInt.toNat ≤ 10 ^ 18) (u3 : 0 ≤ rm2.toInt ∧ rm2.toInt < x3.toInt) : MEA x3 rm2 (x10 + z12) < n ∧ INV x3 rm2 (x10 + z12) := by
  rw [Int32.lt_iff_toInt_lt] at hc hx
  have e34 : (34 : Int32).toInt = 34 := by decide
  have e0 : (0 : Int32).toInt = 0 := by decide
  have h1 := c_iadd x10 z12
  have h2 := rng32 (x10 + z12)
  have h9 := H9.2.1
  unfold MEA INV at *
  rw [if_neg (by omega)] at hn
  rw [if_neg (by omega)]
  refine ⟨by omega, u3.1, u3.2, by omega⟩
theorem own_i2 {x3 rm rm2 d15 : Int64} {x10 : Int32} {n : Nat} (hn : MEA x3 rm x10 < n + 1) (I1 : INV x3 rm x10) (hx : ¬ (0 : Int32) < x10) (u3 : 0 ≤ rm2.toInt ∧ rm2.toInt < x3.toInt) : MEA x3 rm2 (F5 d15) < n ∧ INV x3 rm2 (F5 d15) := by
  rw [Int32.lt_iff_toInt_lt] at hx
  have e0 : (0 : Int32).toInt = 0 := by decide
  obtain ⟨d, h1, h2, h3, -⟩ := dg_spec d15
  unfold MEA INV at *
  rw [if_pos (by omega)] at hn
  rw [if_neg (by omega)]
  refine ⟨by omega, u3.1, u3.2, by omega⟩
theorem own_i3 {x3 rm rm2 d15 : Int64} {x10 : Int32} {n : Nat} (hn : MEA x3 rm x10 < n + 1) (I1 : INV x3 rm x10) (hx : ¬ (0 : Int32) < x10) (hd : ¬ (0 : Int64) < d15) (u3 : 0 ≤ rm2.toInt ∧ rm2.toInt < x3.toInt) (u4 : d15.toInt ≤ 0 → rm.toInt < rm2.toInt) : MEA x3 rm2 x10 < n ∧ INV x3 rm2 x10 := by
  rw [Int32.lt_iff_toInt_lt] at hx
  rw [Int64.lt_iff_toInt_lt] at hd
  have e0 : (0 : Int32).toInt = 0 := by decide
  have e1 : (0 : Int64).toInt = 0 := by decide
  have h4 := u4 (by omega)
  unfold MEA INV at *
  rw [if_pos (by omega)] at hn
  rw [if_pos (by omega)]
  refine ⟨by omega, u3.1, u3.2, I1.2.2⟩
theorem natOf64 {x : Int64} (h : 0 ≤ x.toInt) : ∃ n : Nat, x.toInt = n := ⟨x.toInt.toNat, by omega⟩
theorem own_q5 {x1 x3 q5 : Int64} (H1 : 0 ≤ x1.toInt) (H3 : 1 ≤ x3.toInt) (g : x1 / x3 = q5) : 0 ≤ q5.toInt := by
  obtain ⟨a, ha⟩ := natOf64 H1
  obtain ⟨b, hb⟩ := natOf64 (show 0 ≤ x3.toInt by omega)
  rw [← g, n_div ha hb]; exact Int.natCast_nonneg _
theorem own_inv {x1 x3 rm : Int64} {x10 : Int32} (H1 : 0 ≤ x1.toInt) (H3 : 1 ≤ x3.toInt) (g : x1 % x3 = rm) (h : 0 ≤ x10.toInt) : INV x3 rm x10 := by
  obtain ⟨a, ha⟩ := natOf64 H1
  obtain ⟨b, hb⟩ := natOf64 (show 0 ≤ x3.toInt by omega)
  have hl : a % b < b := Nat.mod_lt _ (by omega)
  unfold INV
  rw [← g, n_rem ha hb, hb]
  generalize a % b = r at *
  omega
theorem own_x9 {x3 : Int64} {x9 : Int32} (H3 : 1 ≤ x3.toInt) (H3' : x3.toInt < 10 ^ 17) (g : F6 (9 : Int32) ((18 : Int32) - (F5 x3)) = x9) : 1 ≤ x9.toInt ∧ x9.toInt ≤ 9 ∧ x3.toInt * 10 ^ x9.toInt.toNat ≤ 10 ^ 18 := by
  obtain ⟨d, h1, h2, h3, h4⟩ := dg_spec x3
  obtain ⟨h5, h6⟩ := h4 H3'
  have e9 : (9 : Int32).toInt = 9 := by decide
  have e18 : (18 : Int32).toInt = 18 := by decide
  have h7 := c_isub (18 : Int32) (F5 x3)
  have h8 := rng32 ((18 : Int32) - (F5 x3))
  have hx : 1 ≤ x9.toInt ∧ x9.toInt ≤ 9 ∧ x9.toInt ≤ 18 - d := by
    rw [← g]
    unfold F6
    split
    · rename_i q
      rw [Int32.lt_iff_toInt_lt] at q
      omega
    · rename_i q
      rw [Int32.lt_iff_toInt_lt] at q
      omega
  refine ⟨hx.1, hx.2.1, ?_⟩
  obtain ⟨X, hX⟩ := natOf64 (show 0 ≤ x3.toInt by omega)
  obtain ⟨k, hk⟩ : ∃ k : Nat, x9.toInt.toNat = k := ⟨_, rfl⟩
  have hkd : k ≤ 18 - d := by omega
  rw [hX] at h6 ⊢
  rw [hk]
  have hXl : X ≤ 10 ^ d := by omega
  have hp : 10 ^ k ≤ 10 ^ (18 - d) := p10_le hkd
  have hm : X * 10 ^ k ≤ 10 ^ d * 10 ^ (18 - d) := Nat.mul_le_mul hXl hp
  rw [← Nat.pow_add, show d + (18 - d) = 18 by omega] at hm
  have e : (X : Int) * 10 ^ k = ((X * 10 ^ k : Nat) : Int) := by simp
  rw [e]
  exact_mod_cast hm
theorem own_x10 {q5 : Int64} {x10 : Int32} (g : (if q5 = (0 : Int64) then (0 : Int32) else (F5 q5)) = x10) : 0 ≤ x10.toInt := by
  rw [← g]
  split
  · decide
  · obtain ⟨d, h1, -⟩ := dg_spec q5; omega
theorem own_l0 {q : Int64} (h : 0 ≤ q.toInt) : R9 (q % (1000000000 : Int64)) := by
  obtain ⟨a, ha⟩ := natOf64 h
  have e : (1000000000 : Int64).toInt = ((1000000000 : Nat) : Int) := by decide
  unfold R9; rw [n_rem ha e]; omega
theorem own_l1 {q : Int64} (h : 0 ≤ q.toInt) : R9 ((q / (1000000000 : Int64)) % (1000000000 : Int64)) := by
  obtain ⟨a, ha⟩ := natOf64 h
  have e : (1000000000 : Int64).toInt = ((1000000000 : Nat) : Int) := by decide
  unfold R9; rw [n_rem (n_div ha e) e]; omega
theorem own_l2' {q : Int64} (h : 0 ≤ q.toInt) : R9 ((q / (1000000000 : Int64)) / (1000000000 : Int64)) := by
  obtain ⟨a, ha⟩ := natOf64 h
  have e : (1000000000 : Int64).toInt = ((1000000000 : Nat) : Int) := by decide
  have := q.toInt_lt
  unfold R9; rw [n_div (n_div ha e) e]; omega
theorem own_100 {x : Int64} (h : 0 ≤ x.toInt ∧ x.toInt < 10 ^ 16) : 0 ≤ (x * (100 : Int64)).toInt := by
  obtain ⟨a, ha⟩ := natOf64 h.1
  have e : (100 : Int64).toInt = ((100 : Nat) : Int) := by decide
  have := h.2
  rw [n_mul ha e (by unfold MX; omega)]; omega
theorem own_v0 {x : Int64} (h : 0 ≤ x.toInt ∧ x.toInt < 10 ^ 16) : ¬ x < (0 : Int64) := by
  rw [Int64.lt_iff_toInt_lt]; have e : (0 : Int64).toInt = 0 := by decide
  have := h.1; omega
theorem own_v2 {x : Int64} (h : 0 ≤ x.toInt ∧ x.toInt < 10 ^ 16) : x < (10000000000000000 : Int64) := by
  rw [Int64.lt_iff_toInt_lt]; have e : (10000000000000000 : Int64).toInt = 10000000000000000 := by decide
  have := h.2; omega
theorem own_v1 {x : Int64} (h : 1 ≤ x.toInt ∧ x.toInt < 10 ^ 17) : (0 : Int64) < x := by
  rw [Int64.lt_iff_toInt_lt]; have e : (0 : Int64).toInt = 0 := by decide
  have := h.1; omega
theorem own_v3 {x : Int64} (h : 1 ≤ x.toInt ∧ x.toInt < 10 ^ 17) : x < (100000000000000000 : Int64) := by
  rw [Int64.lt_iff_toInt_lt]; have e : (100000000000000000 : Int64).toInt = 100000000000000000 := by decide
  have := h.2; omega
def VV (l0 l1 l2 l3 : Int64) : Nat := l0.toInt.toNat + l1.toInt.toNat * 1000000000 + (l2.toInt.toNat + l3.toInt.toNat * 1000000000) * 10 ^ 18
theorem VV_nat {l0 l1 l2 l3 : Int64} {A B C D : Nat} (h0 : l0.toInt = A) (h1 : l1.toInt = B) (h2 : l2.toInt = C) (h3 : l3.toInt = D) : VV l0 l1 l2 l3 = A + B * 1000000000 + (C + D * 1000000000) * 10 ^ 18 := by
  unfold VV; rw [h0, h1, h2, h3]; simp only [Int.toNat_natCast]
theorem own_key {l0 l1 l2 l3 hi lo sh : Int64} {sc x1 : Int32} (r0 : R9 l0) (r1 : R9 l1) (r2 : R9 l2) (r3 : R9 l3) (gh : l3 * (1000000000 : Int64) + l2 = hi) (gl : l1 * (1000000000 : Int64) + l0 = lo) (gs : sc.toInt64 - x1.toInt64 = sh) :
    ∃ HH LO : Nat, hi.toInt = HH ∧ lo.toInt = LO ∧ HH < 10 ^ 18 ∧ LO < 10 ^ 18 ∧ VV l0 l1 l2 l3 = LO + HH * 10 ^ 18 ∧ sh.toInt = sc.toInt - x1.toInt := by
  obtain ⟨A, a0, a1⟩ := r0.nat
  obtain ⟨B, b0, b1⟩ := r1.nat
  obtain ⟨C, c0, c1⟩ := r2.nat
  obtain ⟨D, d0, d1⟩ := r3.nat
  have e : (1000000000 : Int64).toInt = ((1000000000 : Nat) : Int) := by decide
  have h1 := n_add (n_mul d0 e (by unfold MX; omega)) c0 (by unfold MX; omega)
  have h2 := n_add (n_mul b0 e (by unfold MX; omega)) a0 (by unfold MX; omega)
  rw [gh] at h1
  rw [gl] at h2
  refine ⟨_, _, h1, h2, by omega, by omega, ?_, ?_⟩
  · rw [VV_nat a0 b0 c0 d0]; omega
  · have q1 := c_lsub sc.toInt64 x1.toInt64
    have q2 := rng64 (sc.toInt64 - x1.toInt64)
    have q3 := rng32 sc
    have q4 := rng32 x1
    rw [c_i2l, c_i2l] at q1
    rw [gs] at q1 q2
    omega
theorem own_ixB {sh : Int64} {sc x1 : Int32} (k6 : sh.toInt = sc.toInt - x1.toInt) (c1 : sh < (37 : Int64)) (c2 : ¬ sh < (18 : Int64)) : 0 ≤ (sh.toInt32 - (18 : Int32)).toInt ∧ (sh.toInt32 - (18 : Int32)).toInt ≤ 18 ∧ (sh.toInt32 - (18 : Int32)).toInt = sh.toInt - 18 := by
  rw [Int64.lt_iff_toInt_lt] at c1 c2
  have e1 : (37 : Int64).toInt = 37 := by decide
  have e2 : (18 : Int64).toInt = 18 := by decide
  have e3 : (18 : Int32).toInt = 18 := by decide
  have h1 := c_l2i sh
  have h2 := rng32 sh.toInt32
  have h3 := c_isub sh.toInt32 (18 : Int32)
  have h4 := rng32 (sh.toInt32 - (18 : Int32))
  omega
theorem own_ixC {sh : Int64} {sc x1 : Int32} (k6 : sh.toInt = sc.toInt - x1.toInt) (c1 : sh < (37 : Int64)) (c2 : sh < (18 : Int64)) (c3 : ¬ sh < (0 : Int64)) : 0 ≤ ((18 : Int32) - sh.toInt32).toInt ∧ ((18 : Int32) - sh.toInt32).toInt ≤ 18 ∧ ((18 : Int32) - sh.toInt32).toInt = 18 - sh.toInt := by
  rw [Int64.lt_iff_toInt_lt] at c1 c2 c3
  have e1 : (0 : Int64).toInt = 0 := by decide
  have e2 : (18 : Int64).toInt = 18 := by decide
  have e3 : (18 : Int32).toInt = 18 := by decide
  have h1 := c_l2i sh
  have h2 := rng32 sh.toInt32
  have h3 := c_isub (18 : Int32) sh.toInt32
  have h4 := rng32 ((18 : Int32) - sh.toInt32)
  omega
theorem own_ixD {sh : Int64} {sc x1 : Int32} (k6 : sh.toInt = sc.toInt - x1.toInt) (c1 : sh < (37 : Int64)) (c2 : sh < (18 : Int64)) (c3 : ¬ sh < (0 : Int64)) : 0 ≤ sh.toInt32.toInt ∧ sh.toInt32.toInt ≤ 18 ∧ sh.toInt32.toInt = sh.toInt := by
  rw [Int64.lt_iff_toInt_lt] at c1 c2 c3
  have e1 : (0 : Int64).toInt = 0 := by decide
  have e2 : (18 : Int64).toInt = 18 := by decide
  have h1 := c_l2i sh
  have h2 := rng32 sh.toInt32
  omega
theorem own_ixE {sh hi : Int64} {sc x1 : Int32} (k6 : sh.toInt = sc.toInt - x1.toInt) (c1 : sh < (37 : Int64)) (c2 : sh < (18 : Int64)) (c3 : sh < (0 : Int64)) (c4 : ¬ (0 : Int64) < hi) (c5 : ¬ sh < (-18 : Int64)) : 0 ≤ (-sh).toInt32.toInt ∧ (-sh).toInt32.toInt ≤ 18 ∧ (-sh).toInt32.toInt = -sh.toInt := by
  rw [Int64.lt_iff_toInt_lt] at c1 c2 c3 c5
  have e1 : (0 : Int64).toInt = 0 := by decide
  have e2 : (-18 : Int64).toInt = -18 := by decide
  have h1 := c_l2i (-sh)
  have h2 := rng32 (-sh).toInt32
  have h3 := c_lneg sh
  have h4 := rng64 (-sh)
  omega
theorem mx_i : (9223372036854775807 : Int64).toInt = ((MX : Nat) : Int) := by decide
section
variable {hi lo sh : Int64} {sc x1 : Int32} {HH LO : Nat}
theorem key_a (k1 : hi.toInt = HH) (k2 : lo.toInt = LO) (k3 : HH < 10 ^ 18) (k4 : LO < 10 ^ 18) (k6 : sh.toInt = sc.toInt - x1.toInt) (c1 : ¬ sh < (37 : Int64)) : (0 : Int64).toInt = ((SP (LO + HH * 10 ^ 18) (x1.toInt - sc.toInt) : Nat) : Int) := by
  rw [Int64.lt_iff_toInt_lt] at c1
  have e1 : (37 : Int64).toInt = 37 := by decide
  rw [sp_low (by omega) (by omega)]; rfl
theorem key_b {pz : Int64} {i : Int32} (k1 : hi.toInt = HH) (k2 : lo.toInt = LO) (k3 : HH < 10 ^ 18) (k4 : LO < 10 ^ 18) (k6 : sh.toInt = sc.toInt - x1.toInt) (c1 : sh < (37 : Int64)) (c2 : ¬ sh < (18 : Int64)) (ix : 0 ≤ i.toInt ∧ i.toInt ≤ 18 ∧ i.toInt = sh.toInt - 18) (pb : pz.toInt = ((10 ^ i.toInt.toNat : Nat) : Int)) : (hi / pz).toInt = ((SP (LO + HH * 10 ^ 18) (x1.toInt - sc.toInt) : Nat) : Int) := by
  obtain ⟨s, hs⟩ : ∃ s : Nat, sh.toInt = s := ⟨sh.toInt.toNat, by omega⟩
  rw [n_div k1 pb, show x1.toInt - sc.toInt = -(s : Int) by omega, sp_mid k4 k3 (by omega), show i.toInt.toNat = s - 18 by omega]
theorem key_c {pc pd : Int64} {i j : Int32} (k1 : hi.toInt = HH) (k2 : lo.toInt = LO) (k4 : LO < 10 ^ 18) (k6 : sh.toInt = sc.toInt - x1.toInt) (c3 : ¬ sh < (0 : Int64)) (ic : 0 ≤ i.toInt ∧ i.toInt ≤ 18 ∧ i.toInt = 18 - sh.toInt) (pb : pc.toInt = ((10 ^ i.toInt.toNat : Nat) : Int)) (id : 0 ≤ j.toInt ∧ j.toInt ≤ 18 ∧ j.toInt = sh.toInt) (pdb : pd.toInt = ((10 ^ j.toInt.toNat : Nat) : Int)) :
    ∃ P Q : Nat, pc.toInt = P ∧ 1 ≤ P ∧ (lo / pd).toInt = Q ∧ Q ≤ LO ∧ SP (LO + HH * 10 ^ 18) (x1.toInt - sc.toInt) = min (HH * P + Q) MX := by
  rw [Int64.lt_iff_toInt_lt] at c3
  have e1 : (0 : Int64).toInt = 0 := by decide
  obtain ⟨s, hs⟩ : ∃ s : Nat, sh.toInt = s := ⟨sh.toInt.toNat, by omega⟩
  refine ⟨_, _, pb, Nat.pow_pos (by decide), n_div k2 pdb, Nat.div_le_self _ _, ?_⟩
  rw [show x1.toInt - sc.toInt = -(s : Int) by omega, sp_frac (by omega), show i.toInt.toNat = 18 - s by omega, show j.toInt.toNat = s by omega]
theorem key_c1 {pc pd : Int64} {i j : Int32} (k1 : hi.toInt = HH) (k2 : lo.toInt = LO) (k3 : HH < 10 ^ 18) (k4 : LO < 10 ^ 18) (k6 : sh.toInt = sc.toInt - x1.toInt) (c1 : sh < (37 : Int64)) (c2 : sh < (18 : Int64)) (c3 : ¬ sh < (0 : Int64)) (ic : 0 ≤ i.toInt ∧ i.toInt ≤ 18 ∧ i.toInt = 18 - sh.toInt) (pb : pc.toInt = ((10 ^ i.toInt.toNat : Nat) : Int)) (id : 0 ≤ j.toInt ∧ j.toInt ≤ 18 ∧ j.toInt = sh.toInt) (pdb : pd.toInt = ((10 ^ j.toInt.toNat : Nat) : Int))
    (c4 : ((9223372036854775807 : Int64) - (lo / pd)) / pc < hi) : (9223372036854775807 : Int64).toInt = ((SP (LO + HH * 10 ^ 18) (x1.toInt - sc.toInt) : Nat) : Int) := by
  obtain ⟨P, Q, h1, h2, h3, h4, h5⟩ := key_c k1 k2 k4 k6 c3 ic pb id pdb
  have hq : Q ≤ MX := by unfold MX; omega
  rw [lt_n (n_div (n_sub mx_i h3 hq (Nat.le_refl _)) h1) k1, Nat.div_lt_iff_lt_mul (by omega)] at c4
  rw [h5, mx_i]
  generalize HH * P = W at *
  omega
theorem key_c0 {pc pd : Int64} {i j : Int32} (k1 : hi.toInt = HH) (k2 : lo.toInt = LO) (k3 : HH < 10 ^ 18) (k4 : LO < 10 ^ 18) (k6 : sh.toInt = sc.toInt - x1.toInt) (c1 : sh < (37 : Int64)) (c2 : sh < (18 : Int64)) (c3 : ¬ sh < (0 : Int64)) (ic : 0 ≤ i.toInt ∧ i.toInt ≤ 18 ∧ i.toInt = 18 - sh.toInt) (pb : pc.toInt = ((10 ^ i.toInt.toNat : Nat) : Int)) (id : 0 ≤ j.toInt ∧ j.toInt ≤ 18 ∧ j.toInt = sh.toInt) (pdb : pd.toInt = ((10 ^ j.toInt.toNat : Nat) : Int))
    (c4 : ¬ ((9223372036854775807 : Int64) - (lo / pd)) / pc < hi) : (hi * pc + lo / pd).toInt = ((SP (LO + HH * 10 ^ 18) (x1.toInt - sc.toInt) : Nat) : Int) := by
  obtain ⟨P, Q, h1, h2, h3, h4, h5⟩ := key_c k1 k2 k4 k6 c3 ic pb id pdb
  have hq : Q ≤ MX := by unfold MX; omega
  rw [lt_n (n_div (n_sub mx_i h3 hq (Nat.le_refl _)) h1) k1, Nat.div_lt_iff_lt_mul (by omega)] at c4
  rw [h5, n_add (n_mul k1 h1 (by omega)) h3 (by omega)]
  congr 1
  omega
theorem key_d0 (k1 : hi.toInt = HH) (k2 : lo.toInt = LO) (k6 : sh.toInt = sc.toInt - x1.toInt) (c3 : sh < (0 : Int64)) (c4 : (0 : Int64) < hi ∨ sh < (-18 : Int64)) (c5 : ¬ lo = (0 : Int64)) : (9223372036854775807 : Int64).toInt = ((SP (LO + HH * 10 ^ 18) (x1.toInt - sc.toInt) : Nat) : Int) := by
  rw [Int64.lt_iff_toInt_lt] at c3
  rw [Int64.lt_iff_toInt_lt, Int64.lt_iff_toInt_lt] at c4
  rw [eq_n (Y := 0) k2 (by decide)] at c5
  have e1 : (0 : Int64).toInt = 0 := by decide
  have e2 : (-18 : Int64).toInt = -18 := by decide
  rw [mx_i]
  rcases c4 with q | q
  · rw [sp_big (by omega) (by omega)]
  · rw [sp_high (by omega) (by omega)]
theorem key_d10 (k1 : hi.toInt = HH) (k2 : lo.toInt = LO) (k6 : sh.toInt = sc.toInt - x1.toInt) (c3 : sh < (0 : Int64)) (c4 : (0 : Int64) < hi ∨ sh < (-18 : Int64)) (c5 : lo = (0 : Int64)) (c6 : ¬ hi = (0 : Int64)) : (9223372036854775807 : Int64).toInt = ((SP (LO + HH * 10 ^ 18) (x1.toInt - sc.toInt) : Nat) : Int) := by
  rw [Int64.lt_iff_toInt_lt] at c3
  rw [eq_n (Y := 0) k1 (by decide)] at c6
  have e1 : (0 : Int64).toInt = 0 := by decide
  rw [mx_i, sp_big (by omega) (by omega)]
theorem key_d11 (k1 : hi.toInt = HH) (k2 : lo.toInt = LO) (k6 : sh.toInt = sc.toInt - x1.toInt) (c3 : sh < (0 : Int64)) (c4 : (0 : Int64) < hi ∨ sh < (-18 : Int64)) (c5 : lo = (0 : Int64)) (c6 : hi = (0 : Int64)) : (0 : Int64).toInt = ((SP (LO + HH * 10 ^ 18) (x1.toInt - sc.toInt) : Nat) : Int) := by
  rw [eq_n (Y := 0) k1 (by decide)] at c6
  rw [eq_n (Y := 0) k2 (by decide)] at c5
  rw [c5, c6, Nat.zero_mul, sp_zero]; rfl
theorem key_e {pe : Int64} {i : Int32} (k1 : hi.toInt = HH) (k6 : sh.toInt = sc.toInt - x1.toInt) (c3 : sh < (0 : Int64)) (c4 : ¬ (0 : Int64) < hi) (ic : 0 ≤ i.toInt ∧ i.toInt ≤ 18 ∧ i.toInt = -sh.toInt) (pb : pe.toInt = ((10 ^ i.toInt.toNat : Nat) : Int)) :
    ∃ P : Nat, pe.toInt = P ∧ 1 ≤ P ∧ SP (LO + HH * 10 ^ 18) (x1.toInt - sc.toInt) = min (LO * P) MX := by
  rw [Int64.lt_iff_toInt_lt] at c3 c4
  have e1 : (0 : Int64).toInt = 0 := by decide
  have h0 : HH = 0 := by omega
  subst h0
  obtain ⟨s, hs⟩ : ∃ s : Nat, i.toInt = s := ⟨i.toInt.toNat, by omega⟩
  refine ⟨_, pb, Nat.pow_pos (by decide), ?_⟩
  rw [show x1.toInt - sc.toInt = (s : Int) by omega, sp_pos, show i.toInt.toNat = s by omega, Nat.zero_mul, Nat.add_zero]
theorem key_e1 {pe : Int64} {i : Int32} (k1 : hi.toInt = HH) (k2 : lo.toInt = LO) (k3 : HH < 10 ^ 18) (k4 : LO < 10 ^ 18) (k6 : sh.toInt = sc.toInt - x1.toInt) (c3 : sh < (0 : Int64)) (c4 : ¬ (0 : Int64) < hi) (c5 : ¬ sh < (-18 : Int64)) (ic : 0 ≤ i.toInt ∧ i.toInt ≤ 18 ∧ i.toInt = -sh.toInt) (pb : pe.toInt = ((10 ^ i.toInt.toNat : Nat) : Int)) (c6 : (9223372036854775807 : Int64) / pe < lo) : (9223372036854775807 : Int64).toInt = ((SP (LO + HH * 10 ^ 18) (x1.toInt - sc.toInt) : Nat) : Int) := by
  obtain ⟨P, h1, h2, h3⟩ := key_e (LO := LO) k1 k6 c3 c4 ic pb
  rw [lt_n (n_div mx_i h1) k2, Nat.div_lt_iff_lt_mul (by omega)] at c6
  rw [h3, mx_i]
  generalize LO * P = W at *
  omega
theorem key_e0 {pe : Int64} {i : Int32} (k1 : hi.toInt = HH) (k2 : lo.toInt = LO) (k3 : HH < 10 ^ 18) (k4 : LO < 10 ^ 18) (k6 : sh.toInt = sc.toInt - x1.toInt) (c3 : sh < (0 : Int64)) (c4 : ¬ (0 : Int64) < hi) (c5 : ¬ sh < (-18 : Int64)) (ic : 0 ≤ i.toInt ∧ i.toInt ≤ 18 ∧ i.toInt = -sh.toInt) (pb : pe.toInt = ((10 ^ i.toInt.toNat : Nat) : Int)) (c6 : ¬ (9223372036854775807 : Int64) / pe < lo) : (lo * pe).toInt = ((SP (LO + HH * 10 ^ 18) (x1.toInt - sc.toInt) : Nat) : Int) := by
  obtain ⟨P, h1, h2, h3⟩ := key_e (LO := LO) k1 k6 c3 c4 ic pb
  rw [lt_n (n_div mx_i h1) k2, Nat.div_lt_iff_lt_mul (by omega)] at c6
  rw [h3, n_mul k2 h1 (by omega)]
  congr 1
  omega
end
theorem own_pw9 (i : Int32) (h : 0 ≤ i.toInt ∧ i.toInt ≤ 9) : ∃ z : Int64, ([.long (1 : Int64), .long (10 : Int64), .long (100 : Int64), .long (1000 : Int64), .long (10000 : Int64), .long (100000 : Int64), .long (1000000 : Int64), .long (10000000 : Int64), .long (100000000 : Int64), .long (1000000000 : Int64)] : List Value)[i.toNatClampNeg]? = some (.long z) ∧ z.toInt = ((10 ^ i.toInt.toNat : Nat) : Int) := by
  have e : i.toNatClampNeg = i.toInt.toNat := rfl
  rw [e]
  obtain ⟨k, hk⟩ : ∃ k : Nat, i.toInt.toNat = k := ⟨_, rfl⟩
  rw [hk]
  have hk2 : k < 10 := by omega
  clear hk e h i
  have : ∀ k : Fin 10, ([.long (1 : Int64), .long (10 : Int64), .long (100 : Int64), .long (1000 : Int64), .long (10000 : Int64), .long (100000 : Int64), .long (1000000 : Int64), .long (10000000 : Int64), .long (100000000 : Int64), .long (1000000000 : Int64)] : List Value)[k.val]? = some (.long (Int64.ofInt (10 ^ k.val))) ∧ (Int64.ofInt (10 ^ k.val)).toInt = ((10 ^ k.val : Nat) : Int) := by decide
  exact ⟨_, (this ⟨k, hk2⟩).1, (this ⟨k, hk2⟩).2⟩
theorem own_i0 {x : Int32} {d : Nat} (d1 : x.toInt = d) (d2 : d ≤ 8) : 0 ≤ x.toInt ∧ x.toInt ≤ 9 := by omega
theorem own_i9' {x : Int32} {d : Nat} (d1 : x.toInt = d) (d2 : d ≤ 8) : ((9 : Int32) - x).toInt = 9 - d := by
  have e : (9 : Int32).toInt = 9 := by decide
  have h1 := c_isub (9 : Int32) x
  have h2 := rng32 ((9 : Int32) - x)
  omega
theorem own_i9 {x : Int32} {d : Nat} (d1 : x.toInt = d) (d2 : d ≤ 8) : 0 ≤ ((9 : Int32) - x).toInt ∧ ((9 : Int32) - x).toInt ≤ 9 := by
  have := own_i9' d1 d2; omega
theorem own_d {x8 : Int64} {ee : Int} {x13 x14 : Int32} (he : x8.toInt = ee) (c1 : (-36 : Int64) < x8) (c2 : x8 < (19 : Int64)) (g13 : ((x8 + (36 : Int64)) / (9 : Int64)).toInt32 - (4 : Int32) = x13) (g14 : ((x8 + (36 : Int64)) % (9 : Int64)).toInt32 = x14) :
    ∃ d : Nat, x14.toInt = d ∧ d ≤ 8 ∧ (-4 ≤ x13.toInt ∧ x13.toInt ≤ 2) ∧ ee = 9 * x13.toInt + d := by
  rw [Int64.lt_iff_toInt_lt] at c1 c2
  have e1 : (-36 : Int64).toInt = -36 := by decide
  have e2 : (19 : Int64).toInt = 19 := by decide
  have e3 : (36 : Int64).toInt = 36 := by decide
  have e9 : (9 : Int64).toInt = ((9 : Nat) : Int) := by decide
  have e4 : (4 : Int32).toInt = 4 := by decide
  have h1 := c_ladd x8 (36 : Int64)
  have h2 := rng64 (x8 + (36 : Int64))
  obtain ⟨t, ht⟩ := natOf64 (show 0 ≤ (x8 + (36 : Int64)).toInt by omega)
  have h3 := n_div ht e9
  have h4 := n_rem ht e9
  have h5 := c_l2i ((x8 + (36 : Int64)) / (9 : Int64))
  have h6 := c_l2i ((x8 + (36 : Int64)) % (9 : Int64))
  have h7 := c_isub ((x8 + (36 : Int64)) / (9 : Int64)).toInt32 (4 : Int32)
  rw [g13] at h7
  rw [g14] at h6
  have h8 := rng32 x13
  have h9 := rng32 x14
  have h10 := rng32 ((x8 + (36 : Int64)) / (9 : Int64)).toInt32
  exact ⟨t % 9, by omega, by omega, by omega, by omega⟩
theorem own_q {l0 l1 l2 l3 zm zn q0 q1 q2 q3 q4 : Int64} {x14 : Int32} {d : Nat} (r0 : R9 l0) (r1 : R9 l1) (r2 : R9 l2) (r3 : R9 l3) (d1 : x14.toInt = d) (d2 : d ≤ 8) (ezm : zm.toInt = ((10 ^ x14.toInt.toNat : Nat) : Int)) (ezn : zn.toInt = ((10 ^ ((9 : Int32) - x14).toInt.toNat : Nat) : Int))
    (g0 : l0 % zn * zm = q0) (g1 : l1 % zn * zm + l0 / zn = q1) (g2 : l2 % zn * zm + l1 / zn = q2) (g3 : l3 % zn * zm + l2 / zn = q3) (g4 : l3 / zn = q4) :
    ∃ Q0 Q1 Q2 Q3 Q4 : Nat, q0.toInt = Q0 ∧ q1.toInt = Q1 ∧ q2.toInt = Q2 ∧ q3.toInt = Q3 ∧ q4.toInt = Q4 ∧ Q0 < 1000000000 ∧ Q1 < 1000000000 ∧ Q2 < 1000000000 ∧ Q3 < 1000000000 ∧ Q4 < 1000000000 ∧ VV l0 l1 l2 l3 * 10 ^ d = Q0 + Q1 * 1000000000 + Q2 * 10 ^ 18 + Q3 * 10 ^ 27 + Q4 * 10 ^ 36 := by
  obtain ⟨A, a0, a1⟩ := r0.nat
  obtain ⟨B, b0, b1⟩ := r1.nat
  obtain ⟨C, c0, c1⟩ := r2.nat
  obtain ⟨D, f0, f1⟩ := r3.nat
  rw [own_i9' d1 d2, show ((9 : Int) - d).toNat = 9 - d by omega] at ezn
  rw [d1, Int.toNat_natCast] at ezm
  obtain ⟨hW, p0, p1, p2, p3, p4⟩ := ex_prod d d2 A B C D _ _ _ _ _ a1 b1 c1 f1 rfl rfl rfl rfl rfl
  have mx : 1000000000 ≤ MX := by decide
  have m0 := n_mul (n_rem a0 ezn) ezm (by omega)
  have m1 := n_add (n_mul (n_rem b0 ezn) ezm (Nat.le_trans (Nat.le_of_lt (Nat.lt_of_le_of_lt (Nat.le_add_right _ _) p1)) mx)) (n_div a0 ezn) (by omega)
  have m2 := n_add (n_mul (n_rem c0 ezn) ezm (Nat.le_trans (Nat.le_of_lt (Nat.lt_of_le_of_lt (Nat.le_add_right _ _) p2)) mx)) (n_div b0 ezn) (by omega)
  have m3 := n_add (n_mul (n_rem f0 ezn) ezm (Nat.le_trans (Nat.le_of_lt (Nat.lt_of_le_of_lt (Nat.le_add_right _ _) p3)) mx)) (n_div c0 ezn) (by omega)
  have m4 := n_div f0 ezn
  rw [g0] at m0
  rw [g1] at m1
  rw [g2] at m2
  rw [g3] at m3
  rw [g4] at m4
  exact ⟨_, _, _, _, _, m0, m1, m2, m3, m4, p0, p1, p2, p3, p4, by rw [VV_nat a0 b0 c0 f0]; exact hW⟩
theorem VV_zero {l0 l1 l2 l3 : Int64} (r0 : R9 l0) (r1 : R9 l1) (r2 : R9 l2) (r3 : R9 l3) : ((((l0 ||| l1) ||| l2) ||| l3) = (0 : Int64)) ↔ VV l0 l1 l2 l3 = 0 := by
  obtain ⟨A, a0, a1⟩ := r0.nat
  obtain ⟨B, b0, b1⟩ := r1.nat
  obtain ⟨C, c0, c1⟩ := r2.nat
  obtain ⟨D, f0, f1⟩ := r3.nat
  rw [or_n, or_n, or_n, eq_n (Y := 0) a0 (by decide), eq_n (Y := 0) b0 (by decide), eq_n (Y := 0) c0 (by decide), eq_n (Y := 0) f0 (by decide), VV_nat a0 b0 c0 f0]
  omega
theorem ex_a {l0 l1 l2 l3 x8 : Int64} {ee : Int} (r0 : R9 l0) (r1 : R9 l1) (r2 : R9 l2) (r3 : R9 l3) (he : x8.toInt = ee) (h : (((l0 ||| l1) ||| l2) ||| l3) = (0 : Int64) ∨ ¬ (-36 : Int64) < x8) : (0 : Int64).toInt = ((SP (VV l0 l1 l2 l3) ee : Nat) : Int) := by
  rcases h with h | h
  · rw [(VV_zero r0 r1 r2 r3).mp h, sp_zero]; rfl
  · rw [Int64.lt_iff_toInt_lt] at h
    have e1 : (-36 : Int64).toInt = -36 := by decide
    obtain ⟨A, a0, a1⟩ := r0.nat
    obtain ⟨B, b0, b1⟩ := r1.nat
    obtain ⟨C, c0, c1⟩ := r2.nat
    obtain ⟨D, f0, f1⟩ := r3.nat
    rw [VV_nat a0 b0 c0 f0, sp_low (by omega) (by omega)]; rfl
theorem ex_b {l0 l1 l2 l3 x8 : Int64} {ee : Int} (r0 : R9 l0) (r1 : R9 l1) (r2 : R9 l2) (r3 : R9 l3) (he : x8.toInt = ee) (h : ¬ (((l0 ||| l1) ||| l2) ||| l3) = (0 : Int64)) (h2 : ¬ x8 < (19 : Int64)) : (9223372036854775807 : Int64).toInt = ((SP (VV l0 l1 l2 l3) ee : Nat) : Int) := by
  rw [Int64.lt_iff_toInt_lt] at h2
  have e1 : (19 : Int64).toInt = 19 := by decide
  rw [VV_zero r0 r1 r2 r3] at h
  rw [mx_i, sp_high (by omega) (by omega)]
theorem ex_lex {r0 r1 r2 ov : Int64} {R0 R1 R2 OV : Nat} (m0 : r0.toInt = R0) (m1 : r1.toInt = R1) (m2 : r2.toInt = R2) (mb : R0 < 1000000000 ∧ R1 < 1000000000 ∧ R2 < 1000000000) (mo : ov = 0 ↔ OV = 0) :
    ((if ov = (0 : Int64) then (if (9 : Int64) < r2 then (1 : Int32) else (if r2 = (9 : Int64) then (if (223372036 : Int64) < r1 then (1 : Int32) else (if r1 = (223372036 : Int64) then (if (854775807 : Int64) < r0 then (1 : Int32) else (0 : Int32)) else (0 : Int32))) else (0 : Int32))) else (1 : Int32)) = (0 : Int32)) ↔ R0 + R1 * 1000000000 + R2 * 10 ^ 18 + OV * 10 ^ 27 ≤ MX := by
  have t1 : ¬ ((1 : Int32) = (0 : Int32)) := by decide
  have h9 : ((9 : Int64) < r2) ↔ 9 < R2 := lt_n (X := 9) (by decide) m2
  have h9' : (r2 = (9 : Int64)) ↔ R2 = 9 := eq_n (Y := 9) m2 (by decide)
  have h1 : ((223372036 : Int64) < r1) ↔ 223372036 < R1 := lt_n (X := 223372036) (by decide) m1
  have h1' : (r1 = (223372036 : Int64)) ↔ R1 = 223372036 := eq_n (Y := 223372036) m1 (by decide)
  have h0 : ((854775807 : Int64) < r0) ↔ 854775807 < R0 := lt_n (X := 854775807) (by decide) m0
  obtain ⟨b0, b1, b2⟩ := mb
  simp only [h9, h9', h1, h1', h0, mo]
  unfold MX
  by_cases q1 : OV = 0
  · rw [if_pos q1]
    by_cases q2 : 9 < R2
    · rw [if_pos q2]; constructor
      · intro q; exact absurd q t1
      · intro q; omega
    · rw [if_neg q2]
      by_cases q3 : R2 = 9
      · rw [if_pos q3]
        by_cases q4 : 223372036 < R1
        · rw [if_pos q4]; constructor
          · intro q; exact absurd q t1
          · intro q; omega
        · rw [if_neg q4]
          by_cases q5 : R1 = 223372036
          · rw [if_pos q5]
            by_cases q6 : 854775807 < R0
            · rw [if_pos q6]; constructor
              · intro q; exact absurd q t1
              · intro q; omega
            · rw [if_neg q6]; exact ⟨fun _ => by omega, fun _ => rfl⟩
          · rw [if_neg q5]; exact ⟨fun _ => by omega, fun _ => rfl⟩
      · rw [if_neg q3]; exact ⟨fun _ => by omega, fun _ => rfl⟩
  · rw [if_neg q1]; constructor
    · intro q; exact absurd q t1
    · intro q; omega
theorem ex_c {r0 r1 r2 ov : Int64} {R0 R1 R2 OV : Nat} (m0 : r0.toInt = R0) (m1 : r1.toInt = R1) (m2 : r2.toInt = R2) (mb : R0 < 1000000000 ∧ R1 < 1000000000 ∧ R2 < 1000000000) (mo : ov = 0 ↔ OV = 0)
    (h : ¬ (if ov = (0 : Int64) then (if (9 : Int64) < r2 then (1 : Int32) else (if r2 = (9 : Int64) then (if (223372036 : Int64) < r1 then (1 : Int32) else (if r1 = (223372036 : Int64) then (if (854775807 : Int64) < r0 then (1 : Int32) else (0 : Int32)) else (0 : Int32))) else (0 : Int32))) else (1 : Int32)) = (0 : Int32)) :
    (9223372036854775807 : Int64).toInt = ((min (R0 + R1 * 1000000000 + R2 * 10 ^ 18 + OV * 10 ^ 27) MX : Nat) : Int) := by
  rw [ex_lex m0 m1 m2 mb mo] at h
  rw [mx_i]; omega
theorem ex_bd {R0 A B M : Nat} (h : R0 + B + A ≤ M) : A ≤ M ∧ B ≤ M ∧ A + B ≤ M ∧ A + B + R0 ≤ M ∧ A + B + R0 = R0 + B + A := by
  refine ⟨?_, ?_, ?_, ?_, ?_⟩ <;> omega
theorem ex_ov {A B C D : Nat} (h : A + B + C + D * 10 ^ 27 ≤ MX) : D = 0 := by unfold MX at h; omega
theorem ex_d {r0 r1 r2 ov : Int64} {R0 R1 R2 OV : Nat} (m0 : r0.toInt = R0) (m1 : r1.toInt = R1) (m2 : r2.toInt = R2) (mb : R0 < 1000000000 ∧ R1 < 1000000000 ∧ R2 < 1000000000) (mo : ov = 0 ↔ OV = 0)
    (h : (if ov = (0 : Int64) then (if (9 : Int64) < r2 then (1 : Int32) else (if r2 = (9 : Int64) then (if (223372036 : Int64) < r1 then (1 : Int32) else (if r1 = (223372036 : Int64) then (if (854775807 : Int64) < r0 then (1 : Int32) else (0 : Int32)) else (0 : Int32))) else (0 : Int32))) else (1 : Int32)) = (0 : Int32)) :
    (r2 * (1000000000000000000 : Int64) + r1 * (1000000000 : Int64) + r0).toInt = ((min (R0 + R1 * 1000000000 + R2 * 10 ^ 18 + OV * 10 ^ 27) MX : Nat) : Int) := by
  rw [ex_lex m0 m1 m2 mb mo] at h
  have hov : OV = 0 := ex_ov h
  clear mo
  subst hov
  rw [Nat.zero_mul, Nat.add_zero] at h
  obtain ⟨b1, b2, b3, b4, b5⟩ := ex_bd h
  have e1 : (1000000000000000000 : Int64).toInt = ((1000000000000000000 : Nat) : Int) := by decide
  have e1' : (1000000000000000000 : Int64).toInt = ((10 ^ 18 : Nat) : Int) := e1
  have e2 : (1000000000 : Int64).toInt = ((1000000000 : Nat) : Int) := by decide
  rw [n_add (n_add (n_mul m2 e1' b1) (n_mul m1 e2 b2) b3) m0 b4, b5, Nat.zero_mul, Nat.add_zero, Nat.min_eq_left h]
theorem own_e (x y : Int32) : (x.toInt64 - y.toInt64).toInt = x.toInt - y.toInt := by
  have q1 := c_lsub x.toInt64 y.toInt64
  have q2 := rng64 (x.toInt64 - y.toInt64)
  have q3 := rng32 x
  have q4 := rng32 y
  rw [c_i2l, c_i2l] at q1
  omega
theorem own_mask (x : Int64) : 0 ≤ (x &&& (9223372036854775807 : Int64)).toInt := by
  rw [c_maskL x 9223372036854775807 63 (by decide) (by decide)]; omega
theorem own_mm {x mm : Int64} (g : (x &&& (9223372036854775807 : Int64)) % (10000000000000000 : Int64) = mm) : 0 ≤ mm.toInt ∧ mm.toInt < 10 ^ 16 := by
  obtain ⟨a, ha⟩ := natOf64 (own_mask x)
  rw [← g, n_rem ha (show (10000000000000000 : Int64).toInt = ((10000000000000000 : Nat) : Int) by decide)]; omega
theorem own_pp {x pp : Int64} (g : (x &&& (9223372036854775807 : Int64)) % (99999999999999999 : Int64) + (1 : Int64) = pp) : 1 ≤ pp.toInt ∧ pp.toInt < 10 ^ 17 := by
  obtain ⟨a, ha⟩ := natOf64 (own_mask x)
  have h := n_rem ha (show (99999999999999999 : Int64).toInt = ((99999999999999999 : Nat) : Int) by decide)
  rw [← g, n_add h (show (1 : Int64).toInt = ((1 : Nat) : Int) by decide) (by unfold MX; omega)]; omega
theorem own_eq {x y : Int64} {n : Int} (h1 : x.toInt = n) (h2 : y.toInt = n) : x = y := by rw [← Int64.toInt_inj, h1, h2]
def LM (Z : State) (h : Heap) (b : Addr) : Prop := ∃ l0 l1 l2 l3 : Int64, OA Z h b .long [(.long l0), (.long l1), (.long l2), (.long l3)] ∧ R9 l0 ∧ R9 l1 ∧ R9 l2 ∧ R9 l3
theorem d7_0 : decode prog_132_method_11_code 0 = .ok (.lload_n 3, 1) := by decide +kernel
theorem d7_1 : decode prog_132_method_11_code 1 = .ok (.lstore 5, 2) := by decide +kernel
theorem d7_3 : decode prog_132_method_11_code 3 = .ok (.iconst 0, 1) := by decide +kernel
theorem d7_4 : decode prog_132_method_11_code 4 = .ok (.istore 7, 2) := by decide +kernel
theorem d7_6 : decode prog_132_method_11_code 6 = .ok (.iload 7, 2) := by decide +kernel
theorem d7_8 : decode prog_132_method_11_code 8 = .ok (.iconst 4, 1) := by decide +kernel
theorem d7_9 : decode prog_132_method_11_code 9 = .ok (.if_icmp .ge 44, 3) := by decide +kernel
theorem d7_12 : decode prog_132_method_11_code 12 = .ok (.aload_n 0, 1) := by decide +kernel
theorem d7_13 : decode prog_132_method_11_code 13 = .ok (.getfield 9, 3) := by decide +kernel
theorem d7_16 : decode prog_132_method_11_code 16 = .ok (.iload 7, 2) := by decide +kernel
theorem d7_18 : decode prog_132_method_11_code 18 = .ok (.laload, 1) := by decide +kernel
theorem d7_19 : decode prog_132_method_11_code 19 = .ok (.lload_n 1, 1) := by decide +kernel
theorem d7_20 : decode prog_132_method_11_code 20 = .ok (.lmul, 1) := by decide +kernel
theorem d7_21 : decode prog_132_method_11_code 21 = .ok (.lload 5, 2) := by decide +kernel
theorem d7_23 : decode prog_132_method_11_code 23 = .ok (.ladd, 1) := by decide +kernel
theorem d7_24 : decode prog_132_method_11_code 24 = .ok (.lstore 8, 2) := by decide +kernel
theorem d7_26 : decode prog_132_method_11_code 26 = .ok (.aload_n 0, 1) := by decide +kernel
theorem d7_27 : decode prog_132_method_11_code 27 = .ok (.getfield 9, 3) := by decide +kernel
theorem d7_30 : decode prog_132_method_11_code 30 = .ok (.iload 7, 2) := by decide +kernel
theorem d7_32 : decode prog_132_method_11_code 32 = .ok (.lload 8, 2) := by decide +kernel
theorem d7_34 : decode prog_132_method_11_code 34 = .ok (.ldc2_w 58, 3) := by decide +kernel
theorem d7_37 : decode prog_132_method_11_code 37 = .ok (.lrem, 1) := by decide +kernel
theorem d7_38 : decode prog_132_method_11_code 38 = .ok (.lastore, 1) := by decide +kernel
theorem d7_39 : decode prog_132_method_11_code 39 = .ok (.lload 8, 2) := by decide +kernel
theorem d7_41 : decode prog_132_method_11_code 41 = .ok (.ldc2_w 58, 3) := by decide +kernel
theorem d7_44 : decode prog_132_method_11_code 44 = .ok (.ldiv, 1) := by decide +kernel
theorem d7_45 : decode prog_132_method_11_code 45 = .ok (.lstore 5, 2) := by decide +kernel
theorem d7_47 : decode prog_132_method_11_code 47 = .ok (.iinc 7 1, 3) := by decide +kernel
theorem d7_50 : decode prog_132_method_11_code 50 = .ok (.goto (-44), 3) := by decide +kernel
theorem d7_53 : decode prog_132_method_11_code 53 = .ok (.return_, 1) := by decide +kernel
set_option maxRecDepth 65536 in
set_option maxHeartbeats 40000000 in
theorem b7 {l : Launch} {Z : State} {a0 : Array Value} (hw : HW a0 Z) (x0 : Addr) (x1 : Int64) (x2 : Int64) {b : Addr} {l0 l1 l2 l3 : Int64} {n0 : Nat} {h : Heap} (Z0 : n0 ≤ h.size) (gb : n0 ≤ b) (F0 : Fld Z h x0 "com/example/planwright/planwright/service/testing/PercentageQuotient" "limbs" "[J" (.ref b)) (A0 : OA Z h b .long [(.long l0), (.long l1), (.long l2), (.long l3)]) (hxb : x0 ≠ b) (r0 : R9 l0) (r1 : R9 l1) (r2 : R9 l2) (r3 : R9 l3) (hp : 1 ≤ x1.toInt ∧ x1.toInt ≤ 1000000000) (hc : R9 x2) : OM l Z (⟨"com/example/planwright/planwright/service/testing/PercentageQuotient", "shiftIn", "(JJ)V"⟩ : MethodName) prog_132_method_11_code 10 none ⟨0, 0, 0, 0⟩ n0 h #[(.ref x0), (.long x1), (.long x2)] (fun v h' => v = none ∧ Keep h h' [b] ∧ LM Z h' b) 0 0 := by
  refine OM.of_body (ls := #[.val (.ref x0), .val (.long x1), .second, .val (.long x2), .second, .unset, .unset, .unset, .unset, .unset]) (plainFor_of_name pn_0) (fun m => by first | (simp [entryFrame, mkF, argsToLocals, Value.category]; done) | rfl) ?_
  intro p e s m below meth c C
  refine OG.ow (OG.lloadN C d7_0 rfl (pc' := 1) rfl) ?_
  refine OG.ow (OG.lstore C d7_1 (ls' := #[.val (.ref x0), .val (.long x1), .second, .val (.long x2), .second, .val (.long x2), .second, .unset, .unset, .unset]) rfl (pc' := 3) rfl) ?_
  refine OG.ow (OG.iconst C d7_3 (z := (0 : Int32)) rfl (pc' := 4) rfl) ?_
  refine OG.ow (OG.istore C d7_4 (ls' := #[.val (.ref x0), .val (.long x1), .second, .val (.long x2), .second, .val (.long x2), .second, .val (.int (0 : Int32)), .unset, .unset]) rfl (pc' := 6) rfl) ?_
  refine OG.ow (OG.iload C d7_6 rfl (pc' := 8) rfl) ?_
  refine OG.ow (OG.iconst C d7_8 (z := (4 : Int32)) rfl (pc' := 9) rfl) ?_
  refine OG.ow (OG.icmpNo C d7_9 (tlt (by decide : (0 : Int32) < (4 : Int32))).2.1 (pc' := 12) rfl) ?_
  refine OG.ow (OG.aloadN C d7_12 rfl rfl (pc' := 13) rfl) ?_
  refine OG.ow (OG.getF C (host := "") (Or.inl (w13 hw)) Via.refl F0 d7_13 (pc' := 16) rfl) ?_
  refine OG.ow (OG.iload C d7_16 rfl (pc' := 18) rfl) ?_
  refine OG.ow (OG.laload C A0 (own_ib (n := 4) rfl (by decide)) rfl d7_18 (pc' := 19) rfl) ?_
  refine OG.ow (OG.lloadN C d7_19 rfl (pc' := 20) rfl) ?_
  refine OG.ow (OG.lmul C d7_20 (pc' := 21) rfl) ?_
  refine OG.ow (OG.lload C d7_21 rfl (pc' := 23) rfl) ?_
  refine OG.ow (OG.ladd C d7_23 (pc' := 24) rfl) ?_
  generalize ht0 : ((l0 * x1) + x2) = t0
  obtain ⟨dt0, ct0⟩ := own_sh r0 hp (own_cb hc) ht0
  refine OG.ow (OG.lstore C d7_24 (ls' := #[.val (.ref x0), .val (.long x1), .second, .val (.long x2), .second, .val (.long x2), .second, .val (.int (0 : Int32)), .val (.long t0), .second]) rfl (pc' := 26) rfl) ?_
  refine OG.ow (OG.aloadN C d7_26 rfl rfl (pc' := 27) rfl) ?_
  refine OG.ow (OG.getF C (host := "") (Or.inl (w13 hw)) Via.refl F0 d7_27 (pc' := 30) rfl) ?_
  refine OG.ow (OG.iload C d7_30 rfl (pc' := 32) rfl) ?_
  refine OG.ow (OG.lload C d7_32 rfl (pc' := 34) rfl) ?_
  refine OG.ow (OG.ldcL C (w27 hw) d7_34 (pc' := 37) rfl) ?_
  refine OG.ow (OG.lrem C d7_37 (by decide) (pc' := 38) rfl) ?_
  refine OW.lastore C A0 (own_ib (n := 4) rfl (by decide)) gb d7_38 (pc' := 39) rfl ?_
  intro h1 Wh1
  have G2 : OA Z h1 b .long [(.long (t0 % (1000000000 : Int64))), (.long l1), (.long l2), (.long l3)] := OA.same A0 Wh1
  refine OG.ow (OG.lload C d7_39 rfl (pc' := 41) rfl) ?_
  refine OG.ow (OG.ldcL C (w27 hw) d7_41 (pc' := 44) rfl) ?_
  refine OG.ow (OG.ldiv C d7_44 (by decide) (pc' := 45) rfl) ?_
  refine OG.ow (OG.lstore C d7_45 (ls' := #[.val (.ref x0), .val (.long x1), .second, .val (.long x2), .second, .val (.long (t0 / (1000000000 : Int64))), .second, .val (.int (0 : Int32)), .val (.long t0), .second]) rfl (pc' := 47) rfl) ?_
  refine OG.ow (OG.iinc C d7_47 (z := (1 : Int32)) rfl rfl (ls' := #[.val (.ref x0), .val (.long x1), .second, .val (.long x2), .second, .val (.long (t0 / (1000000000 : Int64))), .second, .val (.int (1 : Int32)), .val (.long t0), .second]) (by rw [show (0 : Int32) + (1 : Int32) = (1 : Int32) by decide]; rfl) (pc' := 50) rfl) ?_
  refine OG.ow (OG.goto C d7_50 (by decide) (pc' := 6) (by decide)) ?_
  refine OG.ow (OG.iload C d7_6 rfl (pc' := 8) rfl) ?_
  refine OG.ow (OG.iconst C d7_8 (z := (4 : Int32)) rfl (pc' := 9) rfl) ?_
  refine OG.ow (OG.icmpNo C d7_9 (tlt (by decide : (1 : Int32) < (4 : Int32))).2.1 (pc' := 12) rfl) ?_
  refine OG.ow (OG.aloadN C d7_12 rfl rfl (pc' := 13) rfl) ?_
  have G3 := (Fld.other Wh1 F0 (Or.inl hxb))
  refine OG.ow (OG.getF C (host := "") (Or.inl (w13 hw)) Via.refl G3 d7_13 (pc' := 16) rfl) ?_
  refine OG.ow (OG.iload C d7_16 rfl (pc' := 18) rfl) ?_
  refine OG.ow (OG.laload C G2 (own_ib (n := 4) rfl (by decide)) rfl d7_18 (pc' := 19) rfl) ?_
  refine OG.ow (OG.lloadN C d7_19 rfl (pc' := 20) rfl) ?_
  refine OG.ow (OG.lmul C d7_20 (pc' := 21) rfl) ?_
  refine OG.ow (OG.lload C d7_21 rfl (pc' := 23) rfl) ?_
  refine OG.ow (OG.ladd C d7_23 (pc' := 24) rfl) ?_
  generalize ht1 : ((l1 * x1) + (t0 / (1000000000 : Int64))) = t1
  obtain ⟨dt1, ct1⟩ := own_sh r1 hp (ct0) ht1
  refine OG.ow (OG.lstore C d7_24 (ls' := #[.val (.ref x0), .val (.long x1), .second, .val (.long x2), .second, .val (.long (t0 / (1000000000 : Int64))), .second, .val (.int (1 : Int32)), .val (.long t1), .second]) rfl (pc' := 26) rfl) ?_
  refine OG.ow (OG.aloadN C d7_26 rfl rfl (pc' := 27) rfl) ?_
  refine OG.ow (OG.getF C (host := "") (Or.inl (w13 hw)) Via.refl G3 d7_27 (pc' := 30) rfl) ?_
  refine OG.ow (OG.iload C d7_30 rfl (pc' := 32) rfl) ?_
  refine OG.ow (OG.lload C d7_32 rfl (pc' := 34) rfl) ?_
  refine OG.ow (OG.ldcL C (w27 hw) d7_34 (pc' := 37) rfl) ?_
  refine OG.ow (OG.lrem C d7_37 (by decide) (pc' := 38) rfl) ?_
  refine OW.lastore C G2 (own_ib (n := 4) rfl (by decide)) gb d7_38 (pc' := 39) rfl ?_
  intro h4 Wh4
  have G5 : OA Z h4 b .long [(.long (t0 % (1000000000 : Int64))), (.long (t1 % (1000000000 : Int64))), (.long l2), (.long l3)] := OA.same G2 Wh4
  refine OG.ow (OG.lload C d7_39 rfl (pc' := 41) rfl) ?_
  refine OG.ow (OG.ldcL C (w27 hw) d7_41 (pc' := 44) rfl) ?_
  refine OG.ow (OG.ldiv C d7_44 (by decide) (pc' := 45) rfl) ?_
  refine OG.ow (OG.lstore C d7_45 (ls' := #[.val (.ref x0), .val (.long x1), .second, .val (.long x2), .second, .val (.long (t1 / (1000000000 : Int64))), .second, .val (.int (1 : Int32)), .val (.long t1), .second]) rfl (pc' := 47) rfl) ?_
  refine OG.ow (OG.iinc C d7_47 (z := (1 : Int32)) rfl rfl (ls' := #[.val (.ref x0), .val (.long x1), .second, .val (.long x2), .second, .val (.long (t1 / (1000000000 : Int64))), .second, .val (.int (2 : Int32)), .val (.long t1), .second]) (by rw [show (1 : Int32) + (1 : Int32) = (2 : Int32) by decide]; rfl) (pc' := 50) rfl) ?_
  refine OG.ow (OG.goto C d7_50 (by decide) (pc' := 6) (by decide)) ?_
  refine OG.ow (OG.iload C d7_6 rfl (pc' := 8) rfl) ?_
  refine OG.ow (OG.iconst C d7_8 (z := (4 : Int32)) rfl (pc' := 9) rfl) ?_
  refine OG.ow (OG.icmpNo C d7_9 (tlt (by decide : (2 : Int32) < (4 : Int32))).2.1 (pc' := 12) rfl) ?_
  refine OG.ow (OG.aloadN C d7_12 rfl rfl (pc' := 13) rfl) ?_
  have G6 := (Fld.other Wh4 G3 (Or.inl hxb))
  refine OG.ow (OG.getF C (host := "") (Or.inl (w13 hw)) Via.refl G6 d7_13 (pc' := 16) rfl) ?_
  refine OG.ow (OG.iload C d7_16 rfl (pc' := 18) rfl) ?_
  refine OG.ow (OG.laload C G5 (own_ib (n := 4) rfl (by decide)) rfl d7_18 (pc' := 19) rfl) ?_
  refine OG.ow (OG.lloadN C d7_19 rfl (pc' := 20) rfl) ?_
  refine OG.ow (OG.lmul C d7_20 (pc' := 21) rfl) ?_
  refine OG.ow (OG.lload C d7_21 rfl (pc' := 23) rfl) ?_
  refine OG.ow (OG.ladd C d7_23 (pc' := 24) rfl) ?_
  generalize ht2 : ((l2 * x1) + (t1 / (1000000000 : Int64))) = t2
  obtain ⟨dt2, ct2⟩ := own_sh r2 hp (ct1) ht2
  refine OG.ow (OG.lstore C d7_24 (ls' := #[.val (.ref x0), .val (.long x1), .second, .val (.long x2), .second, .val (.long (t1 / (1000000000 : Int64))), .second, .val (.int (2 : Int32)), .val (.long t2), .second]) rfl (pc' := 26) rfl) ?_
  refine OG.ow (OG.aloadN C d7_26 rfl rfl (pc' := 27) rfl) ?_
  refine OG.ow (OG.getF C (host := "") (Or.inl (w13 hw)) Via.refl G6 d7_27 (pc' := 30) rfl) ?_
  refine OG.ow (OG.iload C d7_30 rfl (pc' := 32) rfl) ?_
  refine OG.ow (OG.lload C d7_32 rfl (pc' := 34) rfl) ?_
  refine OG.ow (OG.ldcL C (w27 hw) d7_34 (pc' := 37) rfl) ?_
  refine OG.ow (OG.lrem C d7_37 (by decide) (pc' := 38) rfl) ?_
  refine OW.lastore C G5 (own_ib (n := 4) rfl (by decide)) gb d7_38 (pc' := 39) rfl ?_
  intro h7 Wh7
  have G8 : OA Z h7 b .long [(.long (t0 % (1000000000 : Int64))), (.long (t1 % (1000000000 : Int64))), (.long (t2 % (1000000000 : Int64))), (.long l3)] := OA.same G5 Wh7
  refine OG.ow (OG.lload C d7_39 rfl (pc' := 41) rfl) ?_
  refine OG.ow (OG.ldcL C (w27 hw) d7_41 (pc' := 44) rfl) ?_
  refine OG.ow (OG.ldiv C d7_44 (by decide) (pc' := 45) rfl) ?_
  refine OG.ow (OG.lstore C d7_45 (ls' := #[.val (.ref x0), .val (.long x1), .second, .val (.long x2), .second, .val (.long (t2 / (1000000000 : Int64))), .second, .val (.int (2 : Int32)), .val (.long t2), .second]) rfl (pc' := 47) rfl) ?_
  refine OG.ow (OG.iinc C d7_47 (z := (1 : Int32)) rfl rfl (ls' := #[.val (.ref x0), .val (.long x1), .second, .val (.long x2), .second, .val (.long (t2 / (1000000000 : Int64))), .second, .val (.int (3 : Int32)), .val (.long t2), .second]) (by rw [show (2 : Int32) + (1 : Int32) = (3 : Int32) by decide]; rfl) (pc' := 50) rfl) ?_
  refine OG.ow (OG.goto C d7_50 (by decide) (pc' := 6) (by decide)) ?_
  refine OG.ow (OG.iload C d7_6 rfl (pc' := 8) rfl) ?_
  refine OG.ow (OG.iconst C d7_8 (z := (4 : Int32)) rfl (pc' := 9) rfl) ?_
  refine OG.ow (OG.icmpNo C d7_9 (tlt (by decide : (3 : Int32) < (4 : Int32))).2.1 (pc' := 12) rfl) ?_
  refine OG.ow (OG.aloadN C d7_12 rfl rfl (pc' := 13) rfl) ?_
  have G9 := (Fld.other Wh7 G6 (Or.inl hxb))
  refine OG.ow (OG.getF C (host := "") (Or.inl (w13 hw)) Via.refl G9 d7_13 (pc' := 16) rfl) ?_
  refine OG.ow (OG.iload C d7_16 rfl (pc' := 18) rfl) ?_
  refine OG.ow (OG.laload C G8 (own_ib (n := 4) rfl (by decide)) rfl d7_18 (pc' := 19) rfl) ?_
  refine OG.ow (OG.lloadN C d7_19 rfl (pc' := 20) rfl) ?_
  refine OG.ow (OG.lmul C d7_20 (pc' := 21) rfl) ?_
  refine OG.ow (OG.lload C d7_21 rfl (pc' := 23) rfl) ?_
  refine OG.ow (OG.ladd C d7_23 (pc' := 24) rfl) ?_
  generalize ht3 : ((l3 * x1) + (t2 / (1000000000 : Int64))) = t3
  obtain ⟨dt3, ct3⟩ := own_sh r3 hp (ct2) ht3
  refine OG.ow (OG.lstore C d7_24 (ls' := #[.val (.ref x0), .val (.long x1), .second, .val (.long x2), .second, .val (.long (t2 / (1000000000 : Int64))), .second, .val (.int (3 : Int32)), .val (.long t3), .second]) rfl (pc' := 26) rfl) ?_
  refine OG.ow (OG.aloadN C d7_26 rfl rfl (pc' := 27) rfl) ?_
  refine OG.ow (OG.getF C (host := "") (Or.inl (w13 hw)) Via.refl G9 d7_27 (pc' := 30) rfl) ?_
  refine OG.ow (OG.iload C d7_30 rfl (pc' := 32) rfl) ?_
  refine OG.ow (OG.lload C d7_32 rfl (pc' := 34) rfl) ?_
  refine OG.ow (OG.ldcL C (w27 hw) d7_34 (pc' := 37) rfl) ?_
  refine OG.ow (OG.lrem C d7_37 (by decide) (pc' := 38) rfl) ?_
  refine OW.lastore C G8 (own_ib (n := 4) rfl (by decide)) gb d7_38 (pc' := 39) rfl ?_
  intro h10 Wh10
  have G11 : OA Z h10 b .long [(.long (t0 % (1000000000 : Int64))), (.long (t1 % (1000000000 : Int64))), (.long (t2 % (1000000000 : Int64))), (.long (t3 % (1000000000 : Int64)))] := OA.same G8 Wh10
  refine OG.ow (OG.lload C d7_39 rfl (pc' := 41) rfl) ?_
  refine OG.ow (OG.ldcL C (w27 hw) d7_41 (pc' := 44) rfl) ?_
  refine OG.ow (OG.ldiv C d7_44 (by decide) (pc' := 45) rfl) ?_
  refine OG.ow (OG.lstore C d7_45 (ls' := #[.val (.ref x0), .val (.long x1), .second, .val (.long x2), .second, .val (.long (t3 / (1000000000 : Int64))), .second, .val (.int (3 : Int32)), .val (.long t3), .second]) rfl (pc' := 47) rfl) ?_
  refine OG.ow (OG.iinc C d7_47 (z := (1 : Int32)) rfl rfl (ls' := #[.val (.ref x0), .val (.long x1), .second, .val (.long x2), .second, .val (.long (t3 / (1000000000 : Int64))), .second, .val (.int (4 : Int32)), .val (.long t3), .second]) (by rw [show (3 : Int32) + (1 : Int32) = (4 : Int32) by decide]; rfl) (pc' := 50) rfl) ?_
  refine OG.ow (OG.goto C d7_50 (by decide) (pc' := 6) (by decide)) ?_
  refine OG.ow (OG.iload C d7_6 rfl (pc' := 8) rfl) ?_
  refine OG.ow (OG.iconst C d7_8 (z := (4 : Int32)) rfl (pc' := 9) rfl) ?_
  refine OG.ow (OG.icmpYes C d7_9 (flt (by decide : ¬ ((4 : Int32) < (4 : Int32)))).2.1 (by decide) (pc' := 53) (by decide)) ?_
  refine OW.retV C d7_53 (by decide) (by decide) ?_
  exact ⟨rfl, (((((Keep.refl h [b]).wr Wh1 (Or.inl (List.mem_of_getElem? (i := 0) rfl))).wr Wh4 (Or.inl (List.mem_of_getElem? (i := 0) rfl))).wr Wh7 (Or.inl (List.mem_of_getElem? (i := 0) rfl))).wr Wh10 (Or.inl (List.mem_of_getElem? (i := 0) rfl))), _, _, _, _, G11, dt0, dt1, dt2, dt3⟩
theorem d14_0 : decode prog_132_method_12_code 0 = .ok (.lconst 0, 1) := by decide +kernel
theorem d14_1 : decode prog_132_method_12_code 1 = .ok (.lstore_n 3, 1) := by decide +kernel
theorem d14_2 : decode prog_132_method_12_code 2 = .ok (.iconst 3, 1) := by decide +kernel
theorem d14_3 : decode prog_132_method_12_code 3 = .ok (.istore 5, 2) := by decide +kernel
theorem d14_5 : decode prog_132_method_12_code 5 = .ok (.iload 5, 2) := by decide +kernel
theorem d14_7 : decode prog_132_method_12_code 7 = .ok (.ifCond .lt 40, 3) := by decide +kernel
theorem d14_10 : decode prog_132_method_12_code 10 = .ok (.lload_n 3, 1) := by decide +kernel
theorem d14_11 : decode prog_132_method_12_code 11 = .ok (.ldc2_w 58, 3) := by decide +kernel
theorem d14_14 : decode prog_132_method_12_code 14 = .ok (.lmul, 1) := by decide +kernel
theorem d14_15 : decode prog_132_method_12_code 15 = .ok (.aload_n 0, 1) := by decide +kernel
theorem d14_16 : decode prog_132_method_12_code 16 = .ok (.getfield 9, 3) := by decide +kernel
theorem d14_19 : decode prog_132_method_12_code 19 = .ok (.iload 5, 2) := by decide +kernel
theorem d14_21 : decode prog_132_method_12_code 21 = .ok (.laload, 1) := by decide +kernel
theorem d14_22 : decode prog_132_method_12_code 22 = .ok (.ladd, 1) := by decide +kernel
theorem d14_23 : decode prog_132_method_12_code 23 = .ok (.lstore 6, 2) := by decide +kernel
theorem d14_25 : decode prog_132_method_12_code 25 = .ok (.aload_n 0, 1) := by decide +kernel
theorem d14_26 : decode prog_132_method_12_code 26 = .ok (.getfield 9, 3) := by decide +kernel
theorem d14_29 : decode prog_132_method_12_code 29 = .ok (.iload 5, 2) := by decide +kernel
theorem d14_31 : decode prog_132_method_12_code 31 = .ok (.lload 6, 2) := by decide +kernel
theorem d14_33 : decode prog_132_method_12_code 33 = .ok (.lload_n 1, 1) := by decide +kernel
theorem d14_34 : decode prog_132_method_12_code 34 = .ok (.ldiv, 1) := by decide +kernel
theorem d14_35 : decode prog_132_method_12_code 35 = .ok (.lastore, 1) := by decide +kernel
theorem d14_36 : decode prog_132_method_12_code 36 = .ok (.lload 6, 2) := by decide +kernel
theorem d14_38 : decode prog_132_method_12_code 38 = .ok (.lload_n 1, 1) := by decide +kernel
theorem d14_39 : decode prog_132_method_12_code 39 = .ok (.lrem, 1) := by decide +kernel
theorem d14_40 : decode prog_132_method_12_code 40 = .ok (.lstore_n 3, 1) := by decide +kernel
theorem d14_41 : decode prog_132_method_12_code 41 = .ok (.iinc 5 (-1), 3) := by decide +kernel
theorem d14_44 : decode prog_132_method_12_code 44 = .ok (.goto (-39), 3) := by decide +kernel
theorem d14_47 : decode prog_132_method_12_code 47 = .ok (.return_, 1) := by decide +kernel
set_option maxRecDepth 65536 in
set_option maxHeartbeats 40000000 in
theorem b14 {l : Launch} {Z : State} {a0 : Array Value} (hw : HW a0 Z) (x0 : Addr) {b : Addr} {l0 l1 l2 l3 : Int64} {n0 : Nat} {h : Heap} (Z0 : n0 ≤ h.size) (gb : n0 ≤ b) (F0 : Fld Z h x0 "com/example/planwright/planwright/service/testing/PercentageQuotient" "limbs" "[J" (.ref b)) (A0 : OA Z h b .long [(.long l0), (.long l1), (.long l2), (.long l3)]) (hxb : x0 ≠ b) (r0 : R9 l0) (r1 : R9 l1) (r2 : R9 l2) (r3 : R9 l3) : OM l Z (⟨"com/example/planwright/planwright/service/testing/PercentageQuotient", "shiftOut", "(J)V"⟩ : MethodName) prog_132_method_12_code 8 none ⟨0, 0, 0, 0⟩ n0 h #[(.ref x0), (.long (10 : Int64))] (fun v h' => v = none ∧ Keep h h' [b] ∧ LM Z h' b) 0 0 := by
  refine OM.of_body (ls := #[.val (.ref x0), .val (.long (10 : Int64)), .second, .unset, .unset, .unset, .unset, .unset]) (plainFor_of_name pn_0) (fun m => by first | (simp [entryFrame, mkF, argsToLocals, Value.category]; done) | rfl) ?_
  intro p e s m below meth c C
  refine OG.ow (OG.lconst C d14_0 (z := (0 : Int64)) rfl (pc' := 1) rfl) ?_
  refine OG.ow (OG.lstoreN C d14_1 (ls' := #[.val (.ref x0), .val (.long (10 : Int64)), .second, .val (.long (0 : Int64)), .second, .unset, .unset, .unset]) rfl (pc' := 2) rfl) ?_
  refine OG.ow (OG.iconst C d14_2 (z := (3 : Int32)) rfl (pc' := 3) rfl) ?_
  refine OG.ow (OG.istore C d14_3 (ls' := #[.val (.ref x0), .val (.long (10 : Int64)), .second, .val (.long (0 : Int64)), .second, .val (.int (3 : Int32)), .unset, .unset]) rfl (pc' := 5) rfl) ?_
  refine OG.ow (OG.iload C d14_5 rfl (pc' := 7) rfl) ?_
  refine OG.ow (OG.ifNo C d14_7 ((if0 _ _).trans (flt (by decide : ¬ ((3 : Int32) < (0 : Int32)))).1) (pc' := 10) rfl) ?_
  refine OG.ow (OG.lloadN C d14_10 rfl (pc' := 11) rfl) ?_
  refine OG.ow (OG.ldcL C (w27 hw) d14_11 (pc' := 14) rfl) ?_
  refine OG.ow (OG.lmul C d14_14 (pc' := 15) rfl) ?_
  refine OG.ow (OG.aloadN C d14_15 rfl rfl (pc' := 16) rfl) ?_
  refine OG.ow (OG.getF C (host := "") (Or.inl (w13 hw)) Via.refl F0 d14_16 (pc' := 19) rfl) ?_
  refine OG.ow (OG.iload C d14_19 rfl (pc' := 21) rfl) ?_
  refine OG.ow (OG.laload C A0 (own_ib (n := 4) rfl (by decide)) rfl d14_21 (pc' := 22) rfl) ?_
  refine OG.ow (OG.ladd C d14_22 (pc' := 23) rfl) ?_
  generalize ht3 : (((0 : Int64) * (1000000000 : Int64)) + l3) = t3
  obtain ⟨dt3, ct3⟩ := own_so (own_c0) r3 ht3
  refine OG.ow (OG.lstore C d14_23 (ls' := #[.val (.ref x0), .val (.long (10 : Int64)), .second, .val (.long (0 : Int64)), .second, .val (.int (3 : Int32)), .val (.long t3), .second]) rfl (pc' := 25) rfl) ?_
  refine OG.ow (OG.aloadN C d14_25 rfl rfl (pc' := 26) rfl) ?_
  refine OG.ow (OG.getF C (host := "") (Or.inl (w13 hw)) Via.refl F0 d14_26 (pc' := 29) rfl) ?_
  refine OG.ow (OG.iload C d14_29 rfl (pc' := 31) rfl) ?_
  refine OG.ow (OG.lload C d14_31 rfl (pc' := 33) rfl) ?_
  refine OG.ow (OG.lloadN C d14_33 rfl (pc' := 34) rfl) ?_
  refine OG.ow (OG.ldiv C d14_34 (by decide) (pc' := 35) rfl) ?_
  refine OW.lastore C A0 (own_ib (n := 4) rfl (by decide)) gb d14_35 (pc' := 36) rfl ?_
  intro h1 Wh1
  have G2 : OA Z h1 b .long [(.long l0), (.long l1), (.long l2), (.long (t3 / (10 : Int64)))] := OA.same A0 Wh1
  refine OG.ow (OG.lload C d14_36 rfl (pc' := 38) rfl) ?_
  refine OG.ow (OG.lloadN C d14_38 rfl (pc' := 39) rfl) ?_
  refine OG.ow (OG.lrem C d14_39 (by decide) (pc' := 40) rfl) ?_
  refine OG.ow (OG.lstoreN C d14_40 (ls' := #[.val (.ref x0), .val (.long (10 : Int64)), .second, .val (.long (t3 % (10 : Int64))), .second, .val (.int (3 : Int32)), .val (.long t3), .second]) rfl (pc' := 41) rfl) ?_
  refine OG.ow (OG.iinc C d14_41 (z := (-1 : Int32)) rfl rfl (ls' := #[.val (.ref x0), .val (.long (10 : Int64)), .second, .val (.long (t3 % (10 : Int64))), .second, .val (.int (2 : Int32)), .val (.long t3), .second]) (by rw [show (3 : Int32) + (-1 : Int32) = (2 : Int32) by decide]; rfl) (pc' := 44) rfl) ?_
  refine OG.ow (OG.goto C d14_44 (by decide) (pc' := 5) (by decide)) ?_
  refine OG.ow (OG.iload C d14_5 rfl (pc' := 7) rfl) ?_
  refine OG.ow (OG.ifNo C d14_7 ((if0 _ _).trans (flt (by decide : ¬ ((2 : Int32) < (0 : Int32)))).1) (pc' := 10) rfl) ?_
  refine OG.ow (OG.lloadN C d14_10 rfl (pc' := 11) rfl) ?_
  refine OG.ow (OG.ldcL C (w27 hw) d14_11 (pc' := 14) rfl) ?_
  refine OG.ow (OG.lmul C d14_14 (pc' := 15) rfl) ?_
  refine OG.ow (OG.aloadN C d14_15 rfl rfl (pc' := 16) rfl) ?_
  have G3 := (Fld.other Wh1 F0 (Or.inl hxb))
  refine OG.ow (OG.getF C (host := "") (Or.inl (w13 hw)) Via.refl G3 d14_16 (pc' := 19) rfl) ?_
  refine OG.ow (OG.iload C d14_19 rfl (pc' := 21) rfl) ?_
  refine OG.ow (OG.laload C G2 (own_ib (n := 4) rfl (by decide)) rfl d14_21 (pc' := 22) rfl) ?_
  refine OG.ow (OG.ladd C d14_22 (pc' := 23) rfl) ?_
  generalize ht2 : (((t3 % (10 : Int64)) * (1000000000 : Int64)) + l2) = t2
  obtain ⟨dt2, ct2⟩ := own_so (ct3) r2 ht2
  refine OG.ow (OG.lstore C d14_23 (ls' := #[.val (.ref x0), .val (.long (10 : Int64)), .second, .val (.long (t3 % (10 : Int64))), .second, .val (.int (2 : Int32)), .val (.long t2), .second]) rfl (pc' := 25) rfl) ?_
  refine OG.ow (OG.aloadN C d14_25 rfl rfl (pc' := 26) rfl) ?_
  refine OG.ow (OG.getF C (host := "") (Or.inl (w13 hw)) Via.refl G3 d14_26 (pc' := 29) rfl) ?_
  refine OG.ow (OG.iload C d14_29 rfl (pc' := 31) rfl) ?_
  refine OG.ow (OG.lload C d14_31 rfl (pc' := 33) rfl) ?_
  refine OG.ow (OG.lloadN C d14_33 rfl (pc' := 34) rfl) ?_
  refine OG.ow (OG.ldiv C d14_34 (by decide) (pc' := 35) rfl) ?_
  refine OW.lastore C G2 (own_ib (n := 4) rfl (by decide)) gb d14_35 (pc' := 36) rfl ?_
  intro h4 Wh4
  have G5 : OA Z h4 b .long [(.long l0), (.long l1), (.long (t2 / (10 : Int64))), (.long (t3 / (10 : Int64)))] := OA.same G2 Wh4
  refine OG.ow (OG.lload C d14_36 rfl (pc' := 38) rfl) ?_
  refine OG.ow (OG.lloadN C d14_38 rfl (pc' := 39) rfl) ?_
  refine OG.ow (OG.lrem C d14_39 (by decide) (pc' := 40) rfl) ?_
  refine OG.ow (OG.lstoreN C d14_40 (ls' := #[.val (.ref x0), .val (.long (10 : Int64)), .second, .val (.long (t2 % (10 : Int64))), .second, .val (.int (2 : Int32)), .val (.long t2), .second]) rfl (pc' := 41) rfl) ?_
  refine OG.ow (OG.iinc C d14_41 (z := (-1 : Int32)) rfl rfl (ls' := #[.val (.ref x0), .val (.long (10 : Int64)), .second, .val (.long (t2 % (10 : Int64))), .second, .val (.int (1 : Int32)), .val (.long t2), .second]) (by rw [show (2 : Int32) + (-1 : Int32) = (1 : Int32) by decide]; rfl) (pc' := 44) rfl) ?_
  refine OG.ow (OG.goto C d14_44 (by decide) (pc' := 5) (by decide)) ?_
  refine OG.ow (OG.iload C d14_5 rfl (pc' := 7) rfl) ?_
  refine OG.ow (OG.ifNo C d14_7 ((if0 _ _).trans (flt (by decide : ¬ ((1 : Int32) < (0 : Int32)))).1) (pc' := 10) rfl) ?_
  refine OG.ow (OG.lloadN C d14_10 rfl (pc' := 11) rfl) ?_
  refine OG.ow (OG.ldcL C (w27 hw) d14_11 (pc' := 14) rfl) ?_
  refine OG.ow (OG.lmul C d14_14 (pc' := 15) rfl) ?_
  refine OG.ow (OG.aloadN C d14_15 rfl rfl (pc' := 16) rfl) ?_
  have G6 := (Fld.other Wh4 G3 (Or.inl hxb))
  refine OG.ow (OG.getF C (host := "") (Or.inl (w13 hw)) Via.refl G6 d14_16 (pc' := 19) rfl) ?_
  refine OG.ow (OG.iload C d14_19 rfl (pc' := 21) rfl) ?_
  refine OG.ow (OG.laload C G5 (own_ib (n := 4) rfl (by decide)) rfl d14_21 (pc' := 22) rfl) ?_
  refine OG.ow (OG.ladd C d14_22 (pc' := 23) rfl) ?_
  generalize ht1 : (((t2 % (10 : Int64)) * (1000000000 : Int64)) + l1) = t1
  obtain ⟨dt1, ct1⟩ := own_so (ct2) r1 ht1
  refine OG.ow (OG.lstore C d14_23 (ls' := #[.val (.ref x0), .val (.long (10 : Int64)), .second, .val (.long (t2 % (10 : Int64))), .second, .val (.int (1 : Int32)), .val (.long t1), .second]) rfl (pc' := 25) rfl) ?_
  refine OG.ow (OG.aloadN C d14_25 rfl rfl (pc' := 26) rfl) ?_
  refine OG.ow (OG.getF C (host := "") (Or.inl (w13 hw)) Via.refl G6 d14_26 (pc' := 29) rfl) ?_
  refine OG.ow (OG.iload C d14_29 rfl (pc' := 31) rfl) ?_
  refine OG.ow (OG.lload C d14_31 rfl (pc' := 33) rfl) ?_
  refine OG.ow (OG.lloadN C d14_33 rfl (pc' := 34) rfl) ?_
  refine OG.ow (OG.ldiv C d14_34 (by decide) (pc' := 35) rfl) ?_
  refine OW.lastore C G5 (own_ib (n := 4) rfl (by decide)) gb d14_35 (pc' := 36) rfl ?_
  intro h7 Wh7
  have G8 : OA Z h7 b .long [(.long l0), (.long (t1 / (10 : Int64))), (.long (t2 / (10 : Int64))), (.long (t3 / (10 : Int64)))] := OA.same G5 Wh7
  refine OG.ow (OG.lload C d14_36 rfl (pc' := 38) rfl) ?_
  refine OG.ow (OG.lloadN C d14_38 rfl (pc' := 39) rfl) ?_
  refine OG.ow (OG.lrem C d14_39 (by decide) (pc' := 40) rfl) ?_
  refine OG.ow (OG.lstoreN C d14_40 (ls' := #[.val (.ref x0), .val (.long (10 : Int64)), .second, .val (.long (t1 % (10 : Int64))), .second, .val (.int (1 : Int32)), .val (.long t1), .second]) rfl (pc' := 41) rfl) ?_
  refine OG.ow (OG.iinc C d14_41 (z := (-1 : Int32)) rfl rfl (ls' := #[.val (.ref x0), .val (.long (10 : Int64)), .second, .val (.long (t1 % (10 : Int64))), .second, .val (.int (0 : Int32)), .val (.long t1), .second]) (by rw [show (1 : Int32) + (-1 : Int32) = (0 : Int32) by decide]; rfl) (pc' := 44) rfl) ?_
  refine OG.ow (OG.goto C d14_44 (by decide) (pc' := 5) (by decide)) ?_
  refine OG.ow (OG.iload C d14_5 rfl (pc' := 7) rfl) ?_
  refine OG.ow (OG.ifNo C d14_7 ((if0 _ _).trans (flt (by decide : ¬ ((0 : Int32) < (0 : Int32)))).1) (pc' := 10) rfl) ?_
  refine OG.ow (OG.lloadN C d14_10 rfl (pc' := 11) rfl) ?_
  refine OG.ow (OG.ldcL C (w27 hw) d14_11 (pc' := 14) rfl) ?_
  refine OG.ow (OG.lmul C d14_14 (pc' := 15) rfl) ?_
  refine OG.ow (OG.aloadN C d14_15 rfl rfl (pc' := 16) rfl) ?_
  have G9 := (Fld.other Wh7 G6 (Or.inl hxb))
  refine OG.ow (OG.getF C (host := "") (Or.inl (w13 hw)) Via.refl G9 d14_16 (pc' := 19) rfl) ?_
  refine OG.ow (OG.iload C d14_19 rfl (pc' := 21) rfl) ?_
  refine OG.ow (OG.laload C G8 (own_ib (n := 4) rfl (by decide)) rfl d14_21 (pc' := 22) rfl) ?_
  refine OG.ow (OG.ladd C d14_22 (pc' := 23) rfl) ?_
  generalize ht0 : (((t1 % (10 : Int64)) * (1000000000 : Int64)) + l0) = t0
  obtain ⟨dt0, ct0⟩ := own_so (ct1) r0 ht0
  refine OG.ow (OG.lstore C d14_23 (ls' := #[.val (.ref x0), .val (.long (10 : Int64)), .second, .val (.long (t1 % (10 : Int64))), .second, .val (.int (0 : Int32)), .val (.long t0), .second]) rfl (pc' := 25) rfl) ?_
  refine OG.ow (OG.aloadN C d14_25 rfl rfl (pc' := 26) rfl) ?_
  refine OG.ow (OG.getF C (host := "") (Or.inl (w13 hw)) Via.refl G9 d14_26 (pc' := 29) rfl) ?_
  refine OG.ow (OG.iload C d14_29 rfl (pc' := 31) rfl) ?_
  refine OG.ow (OG.lload C d14_31 rfl (pc' := 33) rfl) ?_
  refine OG.ow (OG.lloadN C d14_33 rfl (pc' := 34) rfl) ?_
  refine OG.ow (OG.ldiv C d14_34 (by decide) (pc' := 35) rfl) ?_
  refine OW.lastore C G8 (own_ib (n := 4) rfl (by decide)) gb d14_35 (pc' := 36) rfl ?_
  intro h10 Wh10
  have G11 : OA Z h10 b .long [(.long (t0 / (10 : Int64))), (.long (t1 / (10 : Int64))), (.long (t2 / (10 : Int64))), (.long (t3 / (10 : Int64)))] := OA.same G8 Wh10
  refine OG.ow (OG.lload C d14_36 rfl (pc' := 38) rfl) ?_
  refine OG.ow (OG.lloadN C d14_38 rfl (pc' := 39) rfl) ?_
  refine OG.ow (OG.lrem C d14_39 (by decide) (pc' := 40) rfl) ?_
  refine OG.ow (OG.lstoreN C d14_40 (ls' := #[.val (.ref x0), .val (.long (10 : Int64)), .second, .val (.long (t0 % (10 : Int64))), .second, .val (.int (0 : Int32)), .val (.long t0), .second]) rfl (pc' := 41) rfl) ?_
  refine OG.ow (OG.iinc C d14_41 (z := (-1 : Int32)) rfl rfl (ls' := #[.val (.ref x0), .val (.long (10 : Int64)), .second, .val (.long (t0 % (10 : Int64))), .second, .val (.int (-1 : Int32)), .val (.long t0), .second]) (by rw [show (0 : Int32) + (-1 : Int32) = (-1 : Int32) by decide]; rfl) (pc' := 44) rfl) ?_
  refine OG.ow (OG.goto C d14_44 (by decide) (pc' := 5) (by decide)) ?_
  refine OG.ow (OG.iload C d14_5 rfl (pc' := 7) rfl) ?_
  refine OG.ow (OG.ifYes C d14_7 ((if0 _ _).trans (tlt (by decide : (-1 : Int32) < (0 : Int32))).1) (by decide) (pc' := 47) (by decide)) ?_
  refine OW.retV C d14_47 (by decide) (by decide) ?_
  exact ⟨rfl, (((((Keep.refl h [b]).wr Wh1 (Or.inl (List.mem_of_getElem? (i := 0) rfl))).wr Wh4 (Or.inl (List.mem_of_getElem? (i := 0) rfl))).wr Wh7 (Or.inl (List.mem_of_getElem? (i := 0) rfl))).wr Wh10 (Or.inl (List.mem_of_getElem? (i := 0) rfl))), _, _, _, _, G11, dt0, dt1, dt2, dt3⟩
theorem d4_0 : decode prog_132_method_10_code 0 = .ok (.lload_n 1, 1) := by decide +kernel
theorem d4_1 : decode prog_132_method_10_code 1 = .ok (.lload_n 3, 1) := by decide +kernel
theorem d4_2 : decode prog_132_method_10_code 2 = .ok (.ldiv, 1) := by decide +kernel
theorem d4_3 : decode prog_132_method_10_code 3 = .ok (.lstore 5, 2) := by decide +kernel
theorem d4_5 : decode prog_132_method_10_code 5 = .ok (.lload_n 1, 1) := by decide +kernel
theorem d4_6 : decode prog_132_method_10_code 6 = .ok (.lload_n 3, 1) := by decide +kernel
theorem d4_7 : decode prog_132_method_10_code 7 = .ok (.lrem, 1) := by decide +kernel
theorem d4_8 : decode prog_132_method_10_code 8 = .ok (.lstore 7, 2) := by decide +kernel
theorem d4_10 : decode prog_132_method_10_code 10 = .ok (.aload_n 0, 1) := by decide +kernel
theorem d4_11 : decode prog_132_method_10_code 11 = .ok (.getfield 9, 3) := by decide +kernel
theorem d4_14 : decode prog_132_method_10_code 14 = .ok (.iconst 0, 1) := by decide +kernel
theorem d4_15 : decode prog_132_method_10_code 15 = .ok (.lload 5, 2) := by decide +kernel
theorem d4_17 : decode prog_132_method_10_code 17 = .ok (.ldc2_w 58, 3) := by decide +kernel
theorem d4_20 : decode prog_132_method_10_code 20 = .ok (.lrem, 1) := by decide +kernel
theorem d4_21 : decode prog_132_method_10_code 21 = .ok (.lastore, 1) := by decide +kernel
theorem d4_22 : decode prog_132_method_10_code 22 = .ok (.aload_n 0, 1) := by decide +kernel
theorem d4_23 : decode prog_132_method_10_code 23 = .ok (.getfield 9, 3) := by decide +kernel
theorem d4_26 : decode prog_132_method_10_code 26 = .ok (.iconst 1, 1) := by decide +kernel
theorem d4_27 : decode prog_132_method_10_code 27 = .ok (.lload 5, 2) := by decide +kernel
theorem d4_29 : decode prog_132_method_10_code 29 = .ok (.ldc2_w 58, 3) := by decide +kernel
theorem d4_32 : decode prog_132_method_10_code 32 = .ok (.ldiv, 1) := by decide +kernel
theorem d4_33 : decode prog_132_method_10_code 33 = .ok (.ldc2_w 58, 3) := by decide +kernel
theorem d4_36 : decode prog_132_method_10_code 36 = .ok (.lrem, 1) := by decide +kernel
theorem d4_37 : decode prog_132_method_10_code 37 = .ok (.lastore, 1) := by decide +kernel
theorem d4_38 : decode prog_132_method_10_code 38 = .ok (.aload_n 0, 1) := by decide +kernel
theorem d4_39 : decode prog_132_method_10_code 39 = .ok (.getfield 9, 3) := by decide +kernel
theorem d4_42 : decode prog_132_method_10_code 42 = .ok (.iconst 2, 1) := by decide +kernel
theorem d4_43 : decode prog_132_method_10_code 43 = .ok (.lload 5, 2) := by decide +kernel
theorem d4_45 : decode prog_132_method_10_code 45 = .ok (.ldc2_w 58, 3) := by decide +kernel
theorem d4_48 : decode prog_132_method_10_code 48 = .ok (.ldiv, 1) := by decide +kernel
theorem d4_49 : decode prog_132_method_10_code 49 = .ok (.ldc2_w 58, 3) := by decide +kernel
theorem d4_52 : decode prog_132_method_10_code 52 = .ok (.ldiv, 1) := by decide +kernel
theorem d4_53 : decode prog_132_method_10_code 53 = .ok (.lastore, 1) := by decide +kernel
theorem d4_54 : decode prog_132_method_10_code 54 = .ok (.aload_n 0, 1) := by decide +kernel
theorem d4_55 : decode prog_132_method_10_code 55 = .ok (.getfield 9, 3) := by decide +kernel
theorem d4_58 : decode prog_132_method_10_code 58 = .ok (.iconst 3, 1) := by decide +kernel
theorem d4_59 : decode prog_132_method_10_code 59 = .ok (.lconst 0, 1) := by decide +kernel
theorem d4_60 : decode prog_132_method_10_code 60 = .ok (.lastore, 1) := by decide +kernel
theorem d4_61 : decode prog_132_method_10_code 61 = .ok (.bipush 9, 2) := by decide +kernel
theorem d4_63 : decode prog_132_method_10_code 63 = .ok (.bipush 18, 2) := by decide +kernel
theorem d4_65 : decode prog_132_method_10_code 65 = .ok (.lload_n 3, 1) := by decide +kernel
theorem d4_66 : decode prog_132_method_10_code 66 = .ok (.invokestatic 54, 3) := by decide +kernel
theorem d4_69 : decode prog_132_method_10_code 69 = .ok (.isub, 1) := by decide +kernel
theorem d4_70 : decode prog_132_method_10_code 70 = .ok (.invokestatic 104, 3) := by decide +kernel
theorem d4_73 : decode prog_132_method_10_code 73 = .ok (.istore 9, 2) := by decide +kernel
theorem d4_75 : decode prog_132_method_10_code 75 = .ok (.lload 5, 2) := by decide +kernel
theorem d4_77 : decode prog_132_method_10_code 77 = .ok (.lconst 0, 1) := by decide +kernel
theorem d4_78 : decode prog_132_method_10_code 78 = .ok (.lcmp, 1) := by decide +kernel
theorem d4_79 : decode prog_132_method_10_code 79 = .ok (.ifCond .ne 7, 3) := by decide +kernel
theorem d4_82 : decode prog_132_method_10_code 82 = .ok (.iconst 0, 1) := by decide +kernel
theorem d4_83 : decode prog_132_method_10_code 83 = .ok (.goto 8, 3) := by decide +kernel
theorem d4_86 : decode prog_132_method_10_code 86 = .ok (.lload 5, 2) := by decide +kernel
theorem d4_88 : decode prog_132_method_10_code 88 = .ok (.invokestatic 54, 3) := by decide +kernel
theorem d4_91 : decode prog_132_method_10_code 91 = .ok (.istore 10, 2) := by decide +kernel
theorem d4_93 : decode prog_132_method_10_code 93 = .ok (.iconst 0, 1) := by decide +kernel
theorem d4_94 : decode prog_132_method_10_code 94 = .ok (.istore 11, 2) := by decide +kernel
theorem d4_96 : decode prog_132_method_10_code 96 = .ok (.iload 10, 2) := by decide +kernel
theorem d4_98 : decode prog_132_method_10_code 98 = .ok (.getstatic 108, 3) := by decide +kernel
theorem d4_101 : decode prog_132_method_10_code 101 = .ok (.if_icmp .ge 107, 3) := by decide +kernel
theorem d4_104 : decode prog_132_method_10_code 104 = .ok (.lload 7, 2) := by decide +kernel
theorem d4_106 : decode prog_132_method_10_code 106 = .ok (.lconst 0, 1) := by decide +kernel
theorem d4_107 : decode prog_132_method_10_code 107 = .ok (.lcmp, 1) := by decide +kernel
theorem d4_108 : decode prog_132_method_10_code 108 = .ok (.ifCond .eq 100, 3) := by decide +kernel
theorem d4_111 : decode prog_132_method_10_code 111 = .ok (.iload 10, 2) := by decide +kernel
theorem d4_113 : decode prog_132_method_10_code 113 = .ok (.ifCond .ne 8, 3) := by decide +kernel
theorem d4_116 : decode prog_132_method_10_code 116 = .ok (.iload 9, 2) := by decide +kernel
theorem d4_118 : decode prog_132_method_10_code 118 = .ok (.goto 14, 3) := by decide +kernel
theorem d4_121 : decode prog_132_method_10_code 121 = .ok (.iload 9, 2) := by decide +kernel
theorem d4_123 : decode prog_132_method_10_code 123 = .ok (.getstatic 108, 3) := by decide +kernel
theorem d4_126 : decode prog_132_method_10_code 126 = .ok (.iload 10, 2) := by decide +kernel
theorem d4_128 : decode prog_132_method_10_code 128 = .ok (.isub, 1) := by decide +kernel
theorem d4_129 : decode prog_132_method_10_code 129 = .ok (.invokestatic 104, 3) := by decide +kernel
theorem d4_132 : decode prog_132_method_10_code 132 = .ok (.istore 12, 2) := by decide +kernel
theorem d4_134 : decode prog_132_method_10_code 134 = .ok (.lload 7, 2) := by decide +kernel
theorem d4_136 : decode prog_132_method_10_code 136 = .ok (.getstatic 30, 3) := by decide +kernel
theorem d4_139 : decode prog_132_method_10_code 139 = .ok (.iload 12, 2) := by decide +kernel
theorem d4_141 : decode prog_132_method_10_code 141 = .ok (.laload, 1) := by decide +kernel
theorem d4_142 : decode prog_132_method_10_code 142 = .ok (.lmul, 1) := by decide +kernel
theorem d4_143 : decode prog_132_method_10_code 143 = .ok (.lstore 13, 2) := by decide +kernel
theorem d4_145 : decode prog_132_method_10_code 145 = .ok (.lload 13, 2) := by decide +kernel
theorem d4_147 : decode prog_132_method_10_code 147 = .ok (.lload_n 3, 1) := by decide +kernel
theorem d4_148 : decode prog_132_method_10_code 148 = .ok (.ldiv, 1) := by decide +kernel
theorem d4_149 : decode prog_132_method_10_code 149 = .ok (.lstore 15, 2) := by decide +kernel
theorem d4_151 : decode prog_132_method_10_code 151 = .ok (.lload 13, 2) := by decide +kernel
theorem d4_153 : decode prog_132_method_10_code 153 = .ok (.lload_n 3, 1) := by decide +kernel
theorem d4_154 : decode prog_132_method_10_code 154 = .ok (.lrem, 1) := by decide +kernel
theorem d4_155 : decode prog_132_method_10_code 155 = .ok (.lstore 7, 2) := by decide +kernel
theorem d4_157 : decode prog_132_method_10_code 157 = .ok (.aload_n 0, 1) := by decide +kernel
theorem d4_158 : decode prog_132_method_10_code 158 = .ok (.getstatic 30, 3) := by decide +kernel
theorem d4_161 : decode prog_132_method_10_code 161 = .ok (.iload 12, 2) := by decide +kernel
theorem d4_163 : decode prog_132_method_10_code 163 = .ok (.laload, 1) := by decide +kernel
theorem d4_164 : decode prog_132_method_10_code 164 = .ok (.lload 15, 2) := by decide +kernel
theorem d4_166 : decode prog_132_method_10_code 166 = .ok (.invokevirtual 113, 3) := by decide +kernel
theorem d4_169 : decode prog_132_method_10_code 169 = .ok (.iload 11, 2) := by decide +kernel
theorem d4_171 : decode prog_132_method_10_code 171 = .ok (.iload 12, 2) := by decide +kernel
theorem d4_173 : decode prog_132_method_10_code 173 = .ok (.iadd, 1) := by decide +kernel
theorem d4_174 : decode prog_132_method_10_code 174 = .ok (.istore 11, 2) := by decide +kernel
theorem d4_176 : decode prog_132_method_10_code 176 = .ok (.iload 10, 2) := by decide +kernel
theorem d4_178 : decode prog_132_method_10_code 178 = .ok (.ifCond .le 13, 3) := by decide +kernel
theorem d4_181 : decode prog_132_method_10_code 181 = .ok (.iload 10, 2) := by decide +kernel
theorem d4_183 : decode prog_132_method_10_code 183 = .ok (.iload 12, 2) := by decide +kernel
theorem d4_185 : decode prog_132_method_10_code 185 = .ok (.iadd, 1) := by decide +kernel
theorem d4_186 : decode prog_132_method_10_code 186 = .ok (.istore 10, 2) := by decide +kernel
theorem d4_188 : decode prog_132_method_10_code 188 = .ok (.goto 17, 3) := by decide +kernel
theorem d4_191 : decode prog_132_method_10_code 191 = .ok (.lload 15, 2) := by decide +kernel
theorem d4_193 : decode prog_132_method_10_code 193 = .ok (.lconst 0, 1) := by decide +kernel
theorem d4_194 : decode prog_132_method_10_code 194 = .ok (.lcmp, 1) := by decide +kernel
theorem d4_195 : decode prog_132_method_10_code 195 = .ok (.ifCond .le 10, 3) := by decide +kernel
theorem d4_198 : decode prog_132_method_10_code 198 = .ok (.lload 15, 2) := by decide +kernel
theorem d4_200 : decode prog_132_method_10_code 200 = .ok (.invokestatic 54, 3) := by decide +kernel
theorem d4_203 : decode prog_132_method_10_code 203 = .ok (.istore 10, 2) := by decide +kernel
theorem d4_205 : decode prog_132_method_10_code 205 = .ok (.goto (-109), 3) := by decide +kernel
theorem d4_208 : decode prog_132_method_10_code 208 = .ok (.lload 7, 2) := by decide +kernel
theorem d4_210 : decode prog_132_method_10_code 210 = .ok (.lconst 0, 1) := by decide +kernel
theorem d4_211 : decode prog_132_method_10_code 211 = .ok (.lcmp, 1) := by decide +kernel
theorem d4_212 : decode prog_132_method_10_code 212 = .ok (.ifCond .ne 36, 3) := by decide +kernel
theorem d4_215 : decode prog_132_method_10_code 215 = .ok (.iload 11, 2) := by decide +kernel
theorem d4_217 : decode prog_132_method_10_code 217 = .ok (.ifCond .le 74, 3) := by decide +kernel
theorem d4_220 : decode prog_132_method_10_code 220 = .ok (.aload_n 0, 1) := by decide +kernel
theorem d4_221 : decode prog_132_method_10_code 221 = .ok (.getfield 9, 3) := by decide +kernel
theorem d4_224 : decode prog_132_method_10_code 224 = .ok (.iconst 0, 1) := by decide +kernel
theorem d4_225 : decode prog_132_method_10_code 225 = .ok (.laload, 1) := by decide +kernel
theorem d4_226 : decode prog_132_method_10_code 226 = .ok (.ldc2_w 117, 3) := by decide +kernel
theorem d4_229 : decode prog_132_method_10_code 229 = .ok (.lrem, 1) := by decide +kernel
theorem d4_230 : decode prog_132_method_10_code 230 = .ok (.lconst 0, 1) := by decide +kernel
theorem d4_231 : decode prog_132_method_10_code 231 = .ok (.lcmp, 1) := by decide +kernel
theorem d4_232 : decode prog_132_method_10_code 232 = .ok (.ifCond .ne 59, 3) := by decide +kernel
theorem d4_235 : decode prog_132_method_10_code 235 = .ok (.aload_n 0, 1) := by decide +kernel
theorem d4_236 : decode prog_132_method_10_code 236 = .ok (.ldc2_w 117, 3) := by decide +kernel
theorem d4_239 : decode prog_132_method_10_code 239 = .ok (.invokevirtual 119, 3) := by decide +kernel
theorem d4_242 : decode prog_132_method_10_code 242 = .ok (.iinc 11 (-1), 3) := by decide +kernel
theorem d4_245 : decode prog_132_method_10_code 245 = .ok (.goto (-30), 3) := by decide +kernel
theorem d4_248 : decode prog_132_method_10_code 248 = .ok (.lload_n 3, 1) := by decide +kernel
theorem d4_249 : decode prog_132_method_10_code 249 = .ok (.lload 7, 2) := by decide +kernel
theorem d4_251 : decode prog_132_method_10_code 251 = .ok (.lsub, 1) := by decide +kernel
theorem d4_252 : decode prog_132_method_10_code 252 = .ok (.lstore 12, 2) := by decide +kernel
theorem d4_254 : decode prog_132_method_10_code 254 = .ok (.lload 7, 2) := by decide +kernel
theorem d4_256 : decode prog_132_method_10_code 256 = .ok (.lload 12, 2) := by decide +kernel
theorem d4_258 : decode prog_132_method_10_code 258 = .ok (.lcmp, 1) := by decide +kernel
theorem d4_259 : decode prog_132_method_10_code 259 = .ok (.ifCond .gt 26, 3) := by decide +kernel
theorem d4_262 : decode prog_132_method_10_code 262 = .ok (.lload 7, 2) := by decide +kernel
theorem d4_264 : decode prog_132_method_10_code 264 = .ok (.lload 12, 2) := by decide +kernel
theorem d4_266 : decode prog_132_method_10_code 266 = .ok (.lcmp, 1) := by decide +kernel
theorem d4_267 : decode prog_132_method_10_code 267 = .ok (.ifCond .ne 24, 3) := by decide +kernel
theorem d4_270 : decode prog_132_method_10_code 270 = .ok (.aload_n 0, 1) := by decide +kernel
theorem d4_271 : decode prog_132_method_10_code 271 = .ok (.getfield 9, 3) := by decide +kernel
theorem d4_274 : decode prog_132_method_10_code 274 = .ok (.iconst 0, 1) := by decide +kernel
theorem d4_275 : decode prog_132_method_10_code 275 = .ok (.laload, 1) := by decide +kernel
theorem d4_276 : decode prog_132_method_10_code 276 = .ok (.ldc2_w 123, 3) := by decide +kernel
theorem d4_279 : decode prog_132_method_10_code 279 = .ok (.lrem, 1) := by decide +kernel
theorem d4_280 : decode prog_132_method_10_code 280 = .ok (.lconst 1, 1) := by decide +kernel
theorem d4_281 : decode prog_132_method_10_code 281 = .ok (.lcmp, 1) := by decide +kernel
theorem d4_282 : decode prog_132_method_10_code 282 = .ok (.ifCond .ne 9, 3) := by decide +kernel
theorem d4_285 : decode prog_132_method_10_code 285 = .ok (.aload_n 0, 1) := by decide +kernel
theorem d4_286 : decode prog_132_method_10_code 286 = .ok (.lconst 1, 1) := by decide +kernel
theorem d4_287 : decode prog_132_method_10_code 287 = .ok (.lconst 1, 1) := by decide +kernel
theorem d4_288 : decode prog_132_method_10_code 288 = .ok (.invokevirtual 113, 3) := by decide +kernel
theorem d4_291 : decode prog_132_method_10_code 291 = .ok (.iload 11, 2) := by decide +kernel
theorem d4_293 : decode prog_132_method_10_code 293 = .ok (.ireturn, 1) := by decide +kernel
set_option maxRecDepth 65536 in
set_option maxHeartbeats 40000000 in
theorem lp2 {l : Launch} {Z : State} {a0 : Array Value} (hw : HW a0 Z) {p : Program} {e : Env} {s : State} {m : MethodId} {args : Array Value} {below : List Frame} {meth : Method} {c : Code} {n0 : Nat} {h : Heap} (C : OC p s m meth c Z "com/example/planwright/planwright/service/testing/PercentageQuotient" "workOut" prog_132_method_10_code 17 (some .int)) (x0 b pw : Addr) (x1 x3 q5 : Int64) (Z0 : n0 ≤ h.size) (gb : n0 ≤ b) (hxb : x0 ≠ b) (hpb : pw ≠ b) (E0 : Exa Z h x0 "com/example/planwright/planwright/service/testing/PercentageQuotient") (F0 : Fld Z h x0 "com/example/planwright/planwright/service/testing/PercentageQuotient" "limbs" "[J" (.ref b)) (S_pw : Sta Z h "com/example/planwright/planwright/service/testing/PercentageQuotient" "POWERS_OF_TEN" "[J" (.ref pw)) (A_pw : OA Z h pw .long PWL) (S_dg : Sta Z h "com/example/planwright/planwright/model/WorkingPrecision" "DIGITS" "I" (.int (34 : Int32))) {vs0 : List Value} (Ab0 : OA Z h b .long vs0) (x9 : Int32) (H3 : 1 ≤ x3.toInt) (H9 : 1 ≤ x9.toInt ∧ x9.toInt ≤ 9 ∧ x3.toInt * 10 ^ x9.toInt.toNat ≤ 10 ^ 18) (rm : Int64) (x10 : Int32) (s12 s13 s14 s15 s16 : Slot) (n : Nat) : ∀ (h1 : Heap) (x11 : Int32) (l0 l1 l2 l3 : Int64), x11.toInt.toNat < n → ∀ (K1 : Keep h h1 [b]) (A1 : OA Z h1 b .long [(.long l0), (.long l1), (.long l2), (.long l3)]) (r0 : R9 l0) (r1 : R9 l1) (r2 : R9 l2) (r3 : R9 l3), OW p l e ⟨1, 0, 0, 64⟩ s m args below meth c n0 (fun v h' => ∃ r : Int32, v = some (.int r) ∧ Keep h h' [b] ∧ LM Z h' b) 0 0 h1 0 0 (mkF m 215 #[.val (.ref x0), .val (.long x1), .second, .val (.long x3), .second, .val (.long q5), .second, .val (.long rm), .second, .val (.int x9), .val (.int x10), .val (.int x11), s12, s13, s14, s15, s16] []) := by
  induction n with
  | zero => intro h1 x11 l0 l1 l2 l3 hn; exact absurd hn (Nat.not_lt_zero _)
  | succ n ih =>
    intro h1 x11 l0 l1 l2 l3 hn K1 A1 r0 r1 r2 r3
    refine OG.ow (OG.iload C d4_215 rfl (pc' := 217) rfl) ?_
    by_cases hc1 : (0 : Int32) < x11
    · refine OG.ow (OG.ifNo C d4_217 ((if0 _ _).trans (tlt hc1).2.2.2) (pc' := 220) rfl) ?_
      refine OG.ow (OG.aloadN C d4_220 rfl rfl (pc' := 221) rfl) ?_
      have G2 := (F0.keep K1 (ninS hxb nin0))
      refine OG.ow (OG.getF C (host := "") (Or.inl (w13 hw)) Via.refl G2 d4_221 (pc' := 224) rfl) ?_
      refine OG.ow (OG.iconst C d4_224 (z := (0 : Int32)) rfl (pc' := 225) rfl) ?_
      refine OG.ow (OG.laload C A1 (own_ib (n := 4) rfl (by decide)) rfl d4_225 (pc' := 226) rfl) ?_
      refine OG.ow (OG.ldcL C (w88 hw) d4_226 (pc' := 229) rfl) ?_
      refine OG.ow (OG.lrem C d4_229 (by decide) (pc' := 230) rfl) ?_
      refine OG.ow (OG.lconst C d4_230 (z := (0 : Int64)) rfl (pc' := 231) rfl) ?_
      refine OG.ow (OG.lcmp C d4_231 (pc' := 232) rfl) ?_
      by_cases hc3 : (l0 % (10 : Int64)) = (0 : Int64)
      · refine OG.ow (OG.ifNo C d4_232 (teqL hc3).2 (pc' := 235) rfl) ?_
        refine OG.ow (OG.aloadN C d4_235 rfl rfl (pc' := 236) rfl) ?_
        refine OG.ow (OG.ldcL C (w88 hw) d4_236 (pc' := 239) rfl) ?_
        have G4 := (E0.keep K1)
        refine OW.callP C (w89 hw) (w4 hw) (w91 hw) (w90 hw) (w5 hw) (w92 hw) (by decide) G4 (b14 hw x0 (Nat.le_trans Z0 K1.1) gb G2 A1 hxb r0 r1 r2 r3) d4_239 pd_0 rfl (argsL := [(.long (10 : Int64))]) (rest := []) rfl rfl (W := 0) rfl (by decide) (by decide) (by decide) (by decide) (pc' := 242) rfl ?_
        intro vh5 h5 qh5
        obtain ⟨rfl, Kh5, l6, l7, l8, l9, Ah5, rl6, rl7, rl8, rl9⟩ := qh5
        refine OG.ow (OG.iinc C d4_242 (z := (-1 : Int32)) rfl rfl (ls' := #[.val (.ref x0), .val (.long x1), .second, .val (.long x3), .second, .val (.long q5), .second, .val (.long rm), .second, .val (.int x9), .val (.int x10), .val (.int (x11 + (-1 : Int32))), s12, s13, s14, s15, s16]) rfl (pc' := 245) rfl) ?_
        refine OG.ow (OG.goto C d4_245 (by decide) (pc' := 215) (by decide)) ?_
        exact ih h5 (x11 + (-1 : Int32)) l6 l7 l8 l9 (own_l2 hn hc1) (((Keep.refl h [b]).trans K1 (allS (Or.inl (List.mem_of_getElem? (i := 0) rfl)) all0)).trans Kh5 (allS (Or.inl (List.mem_of_getElem? (i := 0) rfl)) all0)) Ah5 rl6 rl7 rl8 rl9
      · refine OG.ow (OG.ifYes C d4_232 (feqL hc3).2 (by decide) (pc' := 291) (by decide)) ?_
        refine OG.ow (OG.iload C d4_291 rfl (pc' := 293) rfl) ?_
        refine OW.retI C d4_293 (by decide) (by decide) ?_
        exact ⟨_, rfl, ((Keep.refl h [b]).trans K1 (allS (Or.inl (List.mem_of_getElem? (i := 0) rfl)) all0)), _, _, _, _, A1, r0, r1, r2, r3⟩
    · refine OG.ow (OG.ifYes C d4_217 ((if0 _ _).trans (flt hc1).2.2.2) (by decide) (pc' := 291) (by decide)) ?_
      refine OG.ow (OG.iload C d4_291 rfl (pc' := 293) rfl) ?_
      refine OW.retI C d4_293 (by decide) (by decide) ?_
      exact ⟨_, rfl, ((Keep.refl h [b]).trans K1 (allS (Or.inl (List.mem_of_getElem? (i := 0) rfl)) all0)), _, _, _, _, A1, r0, r1, r2, r3⟩
set_option maxRecDepth 65536 in
set_option maxHeartbeats 40000000 in
theorem tlU {l : Launch} {Z : State} {a0 : Array Value} (hw : HW a0 Z) {p : Program} {e : Env} {s : State} {m : MethodId} {args : Array Value} {below : List Frame} {meth : Method} {c : Code} {n0 : Nat} {h : Heap} (C : OC p s m meth c Z "com/example/planwright/planwright/service/testing/PercentageQuotient" "workOut" prog_132_method_10_code 17 (some .int)) (x0 b pw : Addr) (x1 x3 q5 : Int64) (Z0 : n0 ≤ h.size) (gb : n0 ≤ b) (hxb : x0 ≠ b) (hpb : pw ≠ b) (E0 : Exa Z h x0 "com/example/planwright/planwright/service/testing/PercentageQuotient") (F0 : Fld Z h x0 "com/example/planwright/planwright/service/testing/PercentageQuotient" "limbs" "[J" (.ref b)) (S_pw : Sta Z h "com/example/planwright/planwright/service/testing/PercentageQuotient" "POWERS_OF_TEN" "[J" (.ref pw)) (A_pw : OA Z h pw .long PWL) (S_dg : Sta Z h "com/example/planwright/planwright/model/WorkingPrecision" "DIGITS" "I" (.int (34 : Int32))) {vs0 : List Value} (Ab0 : OA Z h b .long vs0) (x9 : Int32) (H3 : 1 ≤ x3.toInt) (H9 : 1 ≤ x9.toInt ∧ x9.toInt ≤ 9 ∧ x3.toInt * 10 ^ x9.toInt.toNat ≤ 10 ^ 18) (rm : Int64) (x10 x11 : Int32)  (h1 : Heap) (l0 l1 l2 l3 : Int64) (K1 : Keep h h1 [b]) (A1 : OA Z h1 b .long [(.long l0), (.long l1), (.long l2), (.long l3)]) (r0 : R9 l0) (r1 : R9 l1) (r2 : R9 l2) (r3 : R9 l3) : OW p l e ⟨1, 0, 0, 64⟩ s m args below meth c n0 (fun v h' => ∃ r : Int32, v = some (.int r) ∧ Keep h h' [b] ∧ LM Z h' b) 0 0 h1 0 0 (mkF m 208 #[.val (.ref x0), .val (.long x1), .second, .val (.long x3), .second, .val (.long q5), .second, .val (.long rm), .second, .val (.int x9), .val (.int x10), .val (.int x11), .unset, .unset, .unset, .unset, .unset] []) := by
  refine OG.ow (OG.lload C d4_208 rfl (pc' := 210) rfl) ?_
  refine OG.ow (OG.lconst C d4_210 (z := (0 : Int64)) rfl (pc' := 211) rfl) ?_
  refine OG.ow (OG.lcmp C d4_211 (pc' := 212) rfl) ?_
  by_cases hc1 : rm = (0 : Int64)
  · refine OG.ow (OG.ifNo C d4_212 (teqL hc1).2 (pc' := 215) rfl) ?_
    exact lp2 hw C x0 b pw x1 x3 q5 Z0 gb hxb hpb E0 F0 S_pw A_pw S_dg Ab0 x9 H3 H9 rm x10 .unset .unset .unset .unset .unset (x11.toInt.toNat + 1) h1 x11 l0 l1 l2 l3 (Nat.lt_succ_self _) ((Keep.refl h [b]).trans K1 (allS (Or.inl (List.mem_of_getElem? (i := 0) rfl)) all0)) A1 r0 r1 r2 r3
  · refine OG.ow (OG.ifYes C d4_212 (feqL hc1).2 (by decide) (pc' := 248) (by decide)) ?_
    refine OG.ow (OG.lloadN C d4_248 rfl (pc' := 249) rfl) ?_
    refine OG.ow (OG.lload C d4_249 rfl (pc' := 251) rfl) ?_
    refine OG.ow (OG.lsub C d4_251 (pc' := 252) rfl) ?_
    refine OG.ow (OG.lstore C d4_252 (ls' := #[.val (.ref x0), .val (.long x1), .second, .val (.long x3), .second, .val (.long q5), .second, .val (.long rm), .second, .val (.int x9), .val (.int x10), .val (.int x11), .val (.long (x3 - rm)), .second, .unset, .unset, .unset]) rfl (pc' := 254) rfl) ?_
    refine OG.ow (OG.lload C d4_254 rfl (pc' := 256) rfl) ?_
    refine OG.ow (OG.lload C d4_256 rfl (pc' := 258) rfl) ?_
    refine OG.ow (OG.lcmp C d4_258 (pc' := 259) rfl) ?_
    by_cases hc2 : (x3 - rm) < rm
    · refine OG.ow (OG.ifYes C d4_259 (tltL hc2).2.2.1 (by decide) (pc' := 285) (by decide)) ?_
      refine OG.ow (OG.aloadN C d4_285 rfl rfl (pc' := 286) rfl) ?_
      refine OG.ow (OG.lconst C d4_286 (z := (1 : Int64)) rfl (pc' := 287) rfl) ?_
      refine OG.ow (OG.lconst C d4_287 (z := (1 : Int64)) rfl (pc' := 288) rfl) ?_
      have G3 := (F0.keep K1 (ninS hxb nin0))
      have G4 := (E0.keep K1)
      refine OW.callP C (w38 hw) (w4 hw) (w40 hw) (w39 hw) (w5 hw) (w41 hw) (by decide) G4 (b7 hw x0 (1 : Int64) (1 : Int64) (Nat.le_trans Z0 K1.1) gb G3 A1 hxb r0 r1 r2 r3 (by decide) own_r1) d4_288 pd_1 rfl (argsL := [(.long (1 : Int64)), (.long (1 : Int64))]) (rest := []) rfl rfl (W := 0) rfl (by decide) (by decide) (by decide) (by decide) (pc' := 291) rfl ?_
      intro vh5 h5 qh5
      obtain ⟨rfl, Kh5, l6, l7, l8, l9, Ah5, rl6, rl7, rl8, rl9⟩ := qh5
      refine OG.ow (OG.iload C d4_291 rfl (pc' := 293) rfl) ?_
      refine OW.retI C d4_293 (by decide) (by decide) ?_
      exact ⟨_, rfl, (((Keep.refl h [b]).trans K1 (allS (Or.inl (List.mem_of_getElem? (i := 0) rfl)) all0)).trans Kh5 (allS (Or.inl (List.mem_of_getElem? (i := 0) rfl)) all0)), _, _, _, _, Ah5, rl6, rl7, rl8, rl9⟩
    · refine OG.ow (OG.ifNo C d4_259 (fltL hc2).2.2.1 (pc' := 262) rfl) ?_
      refine OG.ow (OG.lload C d4_262 rfl (pc' := 264) rfl) ?_
      refine OG.ow (OG.lload C d4_264 rfl (pc' := 266) rfl) ?_
      refine OG.ow (OG.lcmp C d4_266 (pc' := 267) rfl) ?_
      by_cases hc10 : rm = (x3 - rm)
      · refine OG.ow (OG.ifNo C d4_267 (teqL hc10).2 (pc' := 270) rfl) ?_
        refine OG.ow (OG.aloadN C d4_270 rfl rfl (pc' := 271) rfl) ?_
        have G11 := (F0.keep K1 (ninS hxb nin0))
        refine OG.ow (OG.getF C (host := "") (Or.inl (w13 hw)) Via.refl G11 d4_271 (pc' := 274) rfl) ?_
        refine OG.ow (OG.iconst C d4_274 (z := (0 : Int32)) rfl (pc' := 275) rfl) ?_
        refine OG.ow (OG.laload C A1 (own_ib (n := 4) rfl (by decide)) rfl d4_275 (pc' := 276) rfl) ?_
        refine OG.ow (OG.ldcL C (w94 hw) d4_276 (pc' := 279) rfl) ?_
        refine OG.ow (OG.lrem C d4_279 (by decide) (pc' := 280) rfl) ?_
        refine OG.ow (OG.lconst C d4_280 (z := (1 : Int64)) rfl (pc' := 281) rfl) ?_
        refine OG.ow (OG.lcmp C d4_281 (pc' := 282) rfl) ?_
        by_cases hc12 : (l0 % (2 : Int64)) = (1 : Int64)
        · refine OG.ow (OG.ifNo C d4_282 (teqL hc12).2 (pc' := 285) rfl) ?_
          refine OG.ow (OG.aloadN C d4_285 rfl rfl (pc' := 286) rfl) ?_
          refine OG.ow (OG.lconst C d4_286 (z := (1 : Int64)) rfl (pc' := 287) rfl) ?_
          refine OG.ow (OG.lconst C d4_287 (z := (1 : Int64)) rfl (pc' := 288) rfl) ?_
          have G13 := (E0.keep K1)
          refine OW.callP C (w38 hw) (w4 hw) (w40 hw) (w39 hw) (w5 hw) (w41 hw) (by decide) G13 (b7 hw x0 (1 : Int64) (1 : Int64) (Nat.le_trans Z0 K1.1) gb G11 A1 hxb r0 r1 r2 r3 (by decide) own_r1) d4_288 pd_1 rfl (argsL := [(.long (1 : Int64)), (.long (1 : Int64))]) (rest := []) rfl rfl (W := 0) rfl (by decide) (by decide) (by decide) (by decide) (pc' := 291) rfl ?_
          intro vh14 h14 qh14
          obtain ⟨rfl, Kh14, l15, l16, l17, l18, Ah14, rl15, rl16, rl17, rl18⟩ := qh14
          refine OG.ow (OG.iload C d4_291 rfl (pc' := 293) rfl) ?_
          refine OW.retI C d4_293 (by decide) (by decide) ?_
          exact ⟨_, rfl, (((Keep.refl h [b]).trans K1 (allS (Or.inl (List.mem_of_getElem? (i := 0) rfl)) all0)).trans Kh14 (allS (Or.inl (List.mem_of_getElem? (i := 0) rfl)) all0)), _, _, _, _, Ah14, rl15, rl16, rl17, rl18⟩
        · refine OG.ow (OG.ifYes C d4_282 (feqL hc12).2 (by decide) (pc' := 291) (by decide)) ?_
          refine OG.ow (OG.iload C d4_291 rfl (pc' := 293) rfl) ?_
          refine OW.retI C d4_293 (by decide) (by decide) ?_
          exact ⟨_, rfl, ((Keep.refl h [b]).trans K1 (allS (Or.inl (List.mem_of_getElem? (i := 0) rfl)) all0)), _, _, _, _, A1, r0, r1, r2, r3⟩
      · refine OG.ow (OG.ifYes C d4_267 (feqL hc10).2 (by decide) (pc' := 291) (by decide)) ?_
        refine OG.ow (OG.iload C d4_291 rfl (pc' := 293) rfl) ?_
        refine OW.retI C d4_293 (by decide) (by decide) ?_
        exact ⟨_, rfl, ((Keep.refl h [b]).trans K1 (allS (Or.inl (List.mem_of_getElem? (i := 0) rfl)) all0)), _, _, _, _, A1, r0, r1, r2, r3⟩
set_option maxRecDepth 65536 in
set_option maxHeartbeats 40000000 in
theorem tlS {l : Launch} {Z : State} {a0 : Array Value} (hw : HW a0 Z) {p : Program} {e : Env} {s : State} {m : MethodId} {args : Array Value} {below : List Frame} {meth : Method} {c : Code} {n0 : Nat} {h : Heap} (C : OC p s m meth c Z "com/example/planwright/planwright/service/testing/PercentageQuotient" "workOut" prog_132_method_10_code 17 (some .int)) (x0 b pw : Addr) (x1 x3 q5 : Int64) (Z0 : n0 ≤ h.size) (gb : n0 ≤ b) (hxb : x0 ≠ b) (hpb : pw ≠ b) (E0 : Exa Z h x0 "com/example/planwright/planwright/service/testing/PercentageQuotient") (F0 : Fld Z h x0 "com/example/planwright/planwright/service/testing/PercentageQuotient" "limbs" "[J" (.ref b)) (S_pw : Sta Z h "com/example/planwright/planwright/service/testing/PercentageQuotient" "POWERS_OF_TEN" "[J" (.ref pw)) (A_pw : OA Z h pw .long PWL) (S_dg : Sta Z h "com/example/planwright/planwright/model/WorkingPrecision" "DIGITS" "I" (.int (34 : Int32))) {vs0 : List Value} (Ab0 : OA Z h b .long vs0) (x9 : Int32) (H3 : 1 ≤ x3.toInt) (H9 : 1 ≤ x9.toInt ∧ x9.toInt ≤ 9 ∧ x3.toInt * 10 ^ x9.toInt.toNat ≤ 10 ^ 18) (rm : Int64) (x10 x11 : Int32) (x12 : Int32) (x13 x15 : Int64) (h1 : Heap) (l0 l1 l2 l3 : Int64) (K1 : Keep h h1 [b]) (A1 : OA Z h1 b .long [(.long l0), (.long l1), (.long l2), (.long l3)]) (r0 : R9 l0) (r1 : R9 l1) (r2 : R9 l2) (r3 : R9 l3) : OW p l e ⟨1, 0, 0, 64⟩ s m args below meth c n0 (fun v h' => ∃ r : Int32, v = some (.int r) ∧ Keep h h' [b] ∧ LM Z h' b) 0 0 h1 0 0 (mkF m 208 #[.val (.ref x0), .val (.long x1), .second, .val (.long x3), .second, .val (.long q5), .second, .val (.long rm), .second, .val (.int x9), .val (.int x10), .val (.int x11), .val (.int x12), .val (.long x13), .second, .val (.long x15), .second] []) := by
  refine OG.ow (OG.lload C d4_208 rfl (pc' := 210) rfl) ?_
  refine OG.ow (OG.lconst C d4_210 (z := (0 : Int64)) rfl (pc' := 211) rfl) ?_
  refine OG.ow (OG.lcmp C d4_211 (pc' := 212) rfl) ?_
  by_cases hc1 : rm = (0 : Int64)
  · refine OG.ow (OG.ifNo C d4_212 (teqL hc1).2 (pc' := 215) rfl) ?_
    exact lp2 hw C x0 b pw x1 x3 q5 Z0 gb hxb hpb E0 F0 S_pw A_pw S_dg Ab0 x9 H3 H9 rm x10 (.val (.int x12)) (.val (.long x13)) .second (.val (.long x15)) .second (x11.toInt.toNat + 1) h1 x11 l0 l1 l2 l3 (Nat.lt_succ_self _) ((Keep.refl h [b]).trans K1 (allS (Or.inl (List.mem_of_getElem? (i := 0) rfl)) all0)) A1 r0 r1 r2 r3
  · refine OG.ow (OG.ifYes C d4_212 (feqL hc1).2 (by decide) (pc' := 248) (by decide)) ?_
    refine OG.ow (OG.lloadN C d4_248 rfl (pc' := 249) rfl) ?_
    refine OG.ow (OG.lload C d4_249 rfl (pc' := 251) rfl) ?_
    refine OG.ow (OG.lsub C d4_251 (pc' := 252) rfl) ?_
    refine OG.ow (OG.lstore C d4_252 (ls' := #[.val (.ref x0), .val (.long x1), .second, .val (.long x3), .second, .val (.long q5), .second, .val (.long rm), .second, .val (.int x9), .val (.int x10), .val (.int x11), .val (.long (x3 - rm)), .second, .unset, .val (.long x15), .second]) rfl (pc' := 254) rfl) ?_
    refine OG.ow (OG.lload C d4_254 rfl (pc' := 256) rfl) ?_
    refine OG.ow (OG.lload C d4_256 rfl (pc' := 258) rfl) ?_
    refine OG.ow (OG.lcmp C d4_258 (pc' := 259) rfl) ?_
    by_cases hc2 : (x3 - rm) < rm
    · refine OG.ow (OG.ifYes C d4_259 (tltL hc2).2.2.1 (by decide) (pc' := 285) (by decide)) ?_
      refine OG.ow (OG.aloadN C d4_285 rfl rfl (pc' := 286) rfl) ?_
      refine OG.ow (OG.lconst C d4_286 (z := (1 : Int64)) rfl (pc' := 287) rfl) ?_
      refine OG.ow (OG.lconst C d4_287 (z := (1 : Int64)) rfl (pc' := 288) rfl) ?_
      have G3 := (F0.keep K1 (ninS hxb nin0))
      have G4 := (E0.keep K1)
      refine OW.callP C (w38 hw) (w4 hw) (w40 hw) (w39 hw) (w5 hw) (w41 hw) (by decide) G4 (b7 hw x0 (1 : Int64) (1 : Int64) (Nat.le_trans Z0 K1.1) gb G3 A1 hxb r0 r1 r2 r3 (by decide) own_r1) d4_288 pd_1 rfl (argsL := [(.long (1 : Int64)), (.long (1 : Int64))]) (rest := []) rfl rfl (W := 0) rfl (by decide) (by decide) (by decide) (by decide) (pc' := 291) rfl ?_
      intro vh5 h5 qh5
      obtain ⟨rfl, Kh5, l6, l7, l8, l9, Ah5, rl6, rl7, rl8, rl9⟩ := qh5
      refine OG.ow (OG.iload C d4_291 rfl (pc' := 293) rfl) ?_
      refine OW.retI C d4_293 (by decide) (by decide) ?_
      exact ⟨_, rfl, (((Keep.refl h [b]).trans K1 (allS (Or.inl (List.mem_of_getElem? (i := 0) rfl)) all0)).trans Kh5 (allS (Or.inl (List.mem_of_getElem? (i := 0) rfl)) all0)), _, _, _, _, Ah5, rl6, rl7, rl8, rl9⟩
    · refine OG.ow (OG.ifNo C d4_259 (fltL hc2).2.2.1 (pc' := 262) rfl) ?_
      refine OG.ow (OG.lload C d4_262 rfl (pc' := 264) rfl) ?_
      refine OG.ow (OG.lload C d4_264 rfl (pc' := 266) rfl) ?_
      refine OG.ow (OG.lcmp C d4_266 (pc' := 267) rfl) ?_
      by_cases hc10 : rm = (x3 - rm)
      · refine OG.ow (OG.ifNo C d4_267 (teqL hc10).2 (pc' := 270) rfl) ?_
        refine OG.ow (OG.aloadN C d4_270 rfl rfl (pc' := 271) rfl) ?_
        have G11 := (F0.keep K1 (ninS hxb nin0))
        refine OG.ow (OG.getF C (host := "") (Or.inl (w13 hw)) Via.refl G11 d4_271 (pc' := 274) rfl) ?_
        refine OG.ow (OG.iconst C d4_274 (z := (0 : Int32)) rfl (pc' := 275) rfl) ?_
        refine OG.ow (OG.laload C A1 (own_ib (n := 4) rfl (by decide)) rfl d4_275 (pc' := 276) rfl) ?_
        refine OG.ow (OG.ldcL C (w94 hw) d4_276 (pc' := 279) rfl) ?_
        refine OG.ow (OG.lrem C d4_279 (by decide) (pc' := 280) rfl) ?_
        refine OG.ow (OG.lconst C d4_280 (z := (1 : Int64)) rfl (pc' := 281) rfl) ?_
        refine OG.ow (OG.lcmp C d4_281 (pc' := 282) rfl) ?_
        by_cases hc12 : (l0 % (2 : Int64)) = (1 : Int64)
        · refine OG.ow (OG.ifNo C d4_282 (teqL hc12).2 (pc' := 285) rfl) ?_
          refine OG.ow (OG.aloadN C d4_285 rfl rfl (pc' := 286) rfl) ?_
          refine OG.ow (OG.lconst C d4_286 (z := (1 : Int64)) rfl (pc' := 287) rfl) ?_
          refine OG.ow (OG.lconst C d4_287 (z := (1 : Int64)) rfl (pc' := 288) rfl) ?_
          have G13 := (E0.keep K1)
          refine OW.callP C (w38 hw) (w4 hw) (w40 hw) (w39 hw) (w5 hw) (w41 hw) (by decide) G13 (b7 hw x0 (1 : Int64) (1 : Int64) (Nat.le_trans Z0 K1.1) gb G11 A1 hxb r0 r1 r2 r3 (by decide) own_r1) d4_288 pd_1 rfl (argsL := [(.long (1 : Int64)), (.long (1 : Int64))]) (rest := []) rfl rfl (W := 0) rfl (by decide) (by decide) (by decide) (by decide) (pc' := 291) rfl ?_
          intro vh14 h14 qh14
          obtain ⟨rfl, Kh14, l15, l16, l17, l18, Ah14, rl15, rl16, rl17, rl18⟩ := qh14
          refine OG.ow (OG.iload C d4_291 rfl (pc' := 293) rfl) ?_
          refine OW.retI C d4_293 (by decide) (by decide) ?_
          exact ⟨_, rfl, (((Keep.refl h [b]).trans K1 (allS (Or.inl (List.mem_of_getElem? (i := 0) rfl)) all0)).trans Kh14 (allS (Or.inl (List.mem_of_getElem? (i := 0) rfl)) all0)), _, _, _, _, Ah14, rl15, rl16, rl17, rl18⟩
        · refine OG.ow (OG.ifYes C d4_282 (feqL hc12).2 (by decide) (pc' := 291) (by decide)) ?_
          refine OG.ow (OG.iload C d4_291 rfl (pc' := 293) rfl) ?_
          refine OW.retI C d4_293 (by decide) (by decide) ?_
          exact ⟨_, rfl, ((Keep.refl h [b]).trans K1 (allS (Or.inl (List.mem_of_getElem? (i := 0) rfl)) all0)), _, _, _, _, A1, r0, r1, r2, r3⟩
      · refine OG.ow (OG.ifYes C d4_267 (feqL hc10).2 (by decide) (pc' := 291) (by decide)) ?_
        refine OG.ow (OG.iload C d4_291 rfl (pc' := 293) rfl) ?_
        refine OW.retI C d4_293 (by decide) (by decide) ?_
        exact ⟨_, rfl, ((Keep.refl h [b]).trans K1 (allS (Or.inl (List.mem_of_getElem? (i := 0) rfl)) all0)), _, _, _, _, A1, r0, r1, r2, r3⟩
set_option maxRecDepth 65536 in
set_option maxHeartbeats 40000000 in
theorem lp1 {l : Launch} {Z : State} {a0 : Array Value} (hw : HW a0 Z) {p : Program} {e : Env} {s : State} {m : MethodId} {args : Array Value} {below : List Frame} {meth : Method} {c : Code} {n0 : Nat} {h : Heap} (C : OC p s m meth c Z "com/example/planwright/planwright/service/testing/PercentageQuotient" "workOut" prog_132_method_10_code 17 (some .int)) (x0 b pw : Addr) (x1 x3 q5 : Int64) (Z0 : n0 ≤ h.size) (gb : n0 ≤ b) (hxb : x0 ≠ b) (hpb : pw ≠ b) (E0 : Exa Z h x0 "com/example/planwright/planwright/service/testing/PercentageQuotient") (F0 : Fld Z h x0 "com/example/planwright/planwright/service/testing/PercentageQuotient" "limbs" "[J" (.ref b)) (S_pw : Sta Z h "com/example/planwright/planwright/service/testing/PercentageQuotient" "POWERS_OF_TEN" "[J" (.ref pw)) (A_pw : OA Z h pw .long PWL) (S_dg : Sta Z h "com/example/planwright/planwright/model/WorkingPrecision" "DIGITS" "I" (.int (34 : Int32))) {vs0 : List Value} (Ab0 : OA Z h b .long vs0) (x9 : Int32) (H3 : 1 ≤ x3.toInt) (H9 : 1 ≤ x9.toInt ∧ x9.toInt ≤ 9 ∧ x3.toInt * 10 ^ x9.toInt.toNat ≤ 10 ^ 18) (n : Nat) : ∀ (h1 : Heap) (rm : Int64) (x10 x11 x12 : Int32) (x13 x15 : Int64) (l0 l1 l2 l3 : Int64), MEA x3 rm x10 < n → INV x3 rm x10 → ∀ (K1 : Keep h h1 [b]) (A1 : OA Z h1 b .long [(.long l0), (.long l1), (.long l2), (.long l3)]) (r0 : R9 l0) (r1 : R9 l1) (r2 : R9 l2) (r3 : R9 l3), OW p l e ⟨1, 0, 0, 64⟩ s m args below meth c n0 (fun v h' => ∃ r : Int32, v = some (.int r) ∧ Keep h h' [b] ∧ LM Z h' b) 0 0 h1 0 0 (mkF m 96 #[.val (.ref x0), .val (.long x1), .second, .val (.long x3), .second, .val (.long q5), .second, .val (.long rm), .second, .val (.int x9), .val (.int x10), .val (.int x11), .val (.int x12), .val (.long x13), .second, .val (.long x15), .second] []) := by
  induction n with
  | zero => intro h1 rm x10 x11 x12 x13 x15 l0 l1 l2 l3 hn; exact absurd hn (Nat.not_lt_zero _)
  | succ n ih =>
    intro h1 rm x10 x11 x12 x13 x15 l0 l1 l2 l3 hn I1 K1 A1 r0 r1 r2 r3
    refine OG.ow (OG.iload C d4_96 rfl (pc' := 98) rfl) ?_
    have G1 := (Sta.kp S_dg K1 (allS (Ab0).pl all0))
    refine OG.ow (OG.getS C (host := "") (Or.inl (w35 hw)) Via.refl G1 d4_98 (pc' := 101) rfl) ?_
    by_cases hc2 : x10 < (34 : Int32)
    · refine OG.ow (OG.icmpNo C d4_101 (tlt hc2).2.1 (pc' := 104) rfl) ?_
      refine OG.ow (OG.lload C d4_104 rfl (pc' := 106) rfl) ?_
      refine OG.ow (OG.lconst C d4_106 (z := (0 : Int64)) rfl (pc' := 107) rfl) ?_
      refine OG.ow (OG.lcmp C d4_107 (pc' := 108) rfl) ?_
      by_cases hc3 : rm = (0 : Int64)
      · refine OG.ow (OG.ifYes C d4_108 (teqL hc3).1 (by decide) (pc' := 208) (by decide)) ?_
        exact tlS hw C x0 b pw x1 x3 q5 Z0 gb hxb hpb E0 F0 S_pw A_pw S_dg Ab0 x9 H3 H9 rm x10 x11 x12 x13 x15 h1 l0 l1 l2 l3 ((Keep.refl h [b]).trans K1 (allS (Or.inl (List.mem_of_getElem? (i := 0) rfl)) all0)) A1 r0 r1 r2 r3
      · refine OG.ow (OG.ifNo C d4_108 (feqL hc3).1 (pc' := 111) rfl) ?_
        refine OG.ow (OG.iload C d4_111 rfl (pc' := 113) rfl) ?_
        refine OG.ow (OG.ite (α := Int32) (P := x10 = (0 : Int32)) (f := fun v => (mkF m 132 #[.val (.ref x0), .val (.long x1), .second, .val (.long x3), .second, .val (.long q5), .second, .val (.long rm), .second, .val (.int x9), .val (.int x10), .val (.int x11), .val (.int x12), .val (.long x13), .second, .val (.long x15), .second] [(.int v)])) (x := x9) (y := (F6 x9 ((34 : Int32) - x10))) (fun hc => ?_) (fun hc => ?_)) ?_
        · refine OG.trans (OG.ifNo C d4_113 ((if0 _ _).trans (teq hc).2) (pc' := 116) rfl) ?_
          refine OG.trans (OG.iload C d4_116 rfl (pc' := 118) rfl) ?_
          refine OG.trans (OG.goto C d4_118 (by decide) (pc' := 132) (by decide)) ?_
          exact OG.refl
        · refine OG.trans (OG.ifYes C d4_113 ((if0 _ _).trans (feq hc).2) (by decide) (pc' := 121) (by decide)) ?_
          refine OG.trans (OG.iload C d4_121 rfl (pc' := 123) rfl) ?_
          refine OG.trans (OG.getS C (host := "") (Or.inl (w35 hw)) Via.refl G1 d4_123 (pc' := 126) rfl) ?_
          refine OG.trans (OG.iload C d4_126 rfl (pc' := 128) rfl) ?_
          refine OG.trans (OG.isub C d4_128 (pc' := 129) rfl) ?_
          refine OG.trans (OG.callS C (w31 hw) (w32 hw) (w33 hw) (w34 hw) (by decide) (b6 hw x9 ((34 : Int32) - x10)) d4_129 pd_2 rfl (argsL := [(.int x9), (.int ((34 : Int32) - x10))]) (rest := []) rfl rfl (W := 0) rfl (by decide) (by decide) (pc' := 132) rfl) ?_
          exact OG.refl
        generalize g12 : (if x10 = (0 : Int32) then x9 else (F6 x9 ((34 : Int32) - x10))) = z12
        obtain ⟨j1, j2⟩ := own_x12 H9 I1 hc2 g12
        refine OG.ow (OG.istore C d4_132 (ls' := #[.val (.ref x0), .val (.long x1), .second, .val (.long x3), .second, .val (.long q5), .second, .val (.long rm), .second, .val (.int x9), .val (.int x10), .val (.int x11), .val (.int z12), .val (.long x13), .second, .val (.long x15), .second]) rfl (pc' := 134) rfl) ?_
        refine OG.ow (OG.lload C d4_134 rfl (pc' := 136) rfl) ?_
        have G4 := (Sta.kp S_pw K1 (allS (Ab0).pl all0))
        refine OG.ow (OG.getS C (host := "") (Or.inl (w20 hw)) Via.refl G4 d4_136 (pc' := 139) rfl) ?_
        refine OG.ow (OG.iload C d4_139 rfl (pc' := 141) rfl) ?_
        obtain ⟨pz, pz1, pz2⟩ := own_pwl z12 (by omega)
        have G5 := (A_pw.keep K1 (ninS hpb nin0))
        refine OG.ow (OG.laload C G5 (own_ib (n := 19) rfl (by omega)) pz1 d4_141 (pc' := 142) rfl) ?_
        refine OG.ow (OG.lmul C d4_142 (pc' := 143) rfl) ?_
        generalize g13 : (rm * pz) = t13
        refine OG.ow (OG.lstore C d4_143 (ls' := #[.val (.ref x0), .val (.long x1), .second, .val (.long x3), .second, .val (.long q5), .second, .val (.long rm), .second, .val (.int x9), .val (.int x10), .val (.int x11), .val (.int z12), .val (.long t13), .second, .val (.long x15), .second]) rfl (pc' := 145) rfl) ?_
        refine OG.ow (OG.lload C d4_145 rfl (pc' := 147) rfl) ?_
        refine OG.ow (OG.lloadN C d4_147 rfl (pc' := 148) rfl) ?_
        refine OG.ow (OG.ldiv C d4_148 (own_nz1 H3) (pc' := 149) rfl) ?_
        generalize g15 : (t13 / x3) = d15
        refine OG.ow (OG.lstore C d4_149 (ls' := #[.val (.ref x0), .val (.long x1), .second, .val (.long x3), .second, .val (.long q5), .second, .val (.long rm), .second, .val (.int x9), .val (.int x10), .val (.int x11), .val (.int z12), .val (.long t13), .second, .val (.long d15), .second]) rfl (pc' := 151) rfl) ?_
        refine OG.ow (OG.lload C d4_151 rfl (pc' := 153) rfl) ?_
        refine OG.ow (OG.lloadN C d4_153 rfl (pc' := 154) rfl) ?_
        refine OG.ow (OG.lrem C d4_154 (own_nz1 H3) (pc' := 155) rfl) ?_
        generalize g7 : (t13 % x3) = rm2
        obtain ⟨u1, u2, u3, u4⟩ := own_turn H3 H9 I1 hc3 j1 j2 pz2 g13 g15 g7
        refine OG.ow (OG.lstore C d4_155 (ls' := #[.val (.ref x0), .val (.long x1), .second, .val (.long x3), .second, .val (.long q5), .second, .val (.long rm2), .second, .val (.int x9), .val (.int x10), .val (.int x11), .val (.int z12), .val (.long t13), .second, .val (.long d15), .second]) rfl (pc' := 157) rfl) ?_
        refine OG.ow (OG.aloadN C d4_157 rfl rfl (pc' := 158) rfl) ?_
        refine OG.ow (OG.getS C (host := "") (Or.inl (w20 hw)) Via.refl G4 d4_158 (pc' := 161) rfl) ?_
        refine OG.ow (OG.iload C d4_161 rfl (pc' := 163) rfl) ?_
        refine OG.ow (OG.laload C G5 (own_ib (n := 19) rfl (by omega)) pz1 d4_163 (pc' := 164) rfl) ?_
        refine OG.ow (OG.lload C d4_164 rfl (pc' := 166) rfl) ?_
        have G6 := (F0.keep K1 (ninS hxb nin0))
        have G7 := (E0.keep K1)
        refine OW.callP C (w38 hw) (w4 hw) (w40 hw) (w39 hw) (w5 hw) (w41 hw) (by decide) G7 (b7 hw x0 pz d15 (Nat.le_trans Z0 K1.1) gb G6 A1 hxb r0 r1 r2 r3 u1 u2) d4_166 pd_1 rfl (argsL := [(.long pz), (.long d15)]) (rest := []) rfl rfl (W := 0) rfl (by decide) (by decide) (by decide) (by decide) (pc' := 169) rfl ?_
        intro vh8 h8 qh8
        obtain ⟨rfl, Kh8, l9, l10, l11, l12, Ah8, rl9, rl10, rl11, rl12⟩ := qh8
        refine OG.ow (OG.iload C d4_169 rfl (pc' := 171) rfl) ?_
        refine OG.ow (OG.iload C d4_171 rfl (pc' := 173) rfl) ?_
        refine OG.ow (OG.iadd C d4_173 (pc' := 174) rfl) ?_
        refine OG.ow (OG.istore C d4_174 (ls' := #[.val (.ref x0), .val (.long x1), .second, .val (.long x3), .second, .val (.long q5), .second, .val (.long rm2), .second, .val (.int x9), .val (.int x10), .val (.int (x11 + z12)), .val (.int z12), .val (.long t13), .second, .val (.long d15), .second]) rfl (pc' := 176) rfl) ?_
        refine OG.ow (OG.iload C d4_176 rfl (pc' := 178) rfl) ?_
        by_cases hc13 : (0 : Int32) < x10
        · refine OG.ow (OG.ifNo C d4_178 ((if0 _ _).trans (tlt hc13).2.2.2) (pc' := 181) rfl) ?_
          refine OG.ow (OG.iload C d4_181 rfl (pc' := 183) rfl) ?_
          refine OG.ow (OG.iload C d4_183 rfl (pc' := 185) rfl) ?_
          refine OG.ow (OG.iadd C d4_185 (pc' := 186) rfl) ?_
          refine OG.ow (OG.istore C d4_186 (ls' := #[.val (.ref x0), .val (.long x1), .second, .val (.long x3), .second, .val (.long q5), .second, .val (.long rm2), .second, .val (.int x9), .val (.int (x10 + z12)), .val (.int (x11 + z12)), .val (.int z12), .val (.long t13), .second, .val (.long d15), .second]) rfl (pc' := 188) rfl) ?_
          refine OG.ow (OG.goto C d4_188 (by decide) (pc' := 205) (by decide)) ?_
          refine OG.ow (OG.goto C d4_205 (by decide) (pc' := 96) (by decide)) ?_
          have iv := own_i1 hn I1 hc2 hc13 j1 j2 H9 u3
          exact ih h8 rm2 (x10 + z12) (x11 + z12) z12 t13 d15 l9 l10 l11 l12 iv.1 iv.2 (((Keep.refl h [b]).trans K1 (allS (Or.inl (List.mem_of_getElem? (i := 0) rfl)) all0)).trans Kh8 (allS (Or.inl (List.mem_of_getElem? (i := 0) rfl)) all0)) Ah8 rl9 rl10 rl11 rl12
        · refine OG.ow (OG.ifYes C d4_178 ((if0 _ _).trans (flt hc13).2.2.2) (by decide) (pc' := 191) (by decide)) ?_
          refine OG.ow (OG.lload C d4_191 rfl (pc' := 193) rfl) ?_
          refine OG.ow (OG.lconst C d4_193 (z := (0 : Int64)) rfl (pc' := 194) rfl) ?_
          refine OG.ow (OG.lcmp C d4_194 (pc' := 195) rfl) ?_
          by_cases hc14 : (0 : Int64) < d15
          · refine OG.ow (OG.ifNo C d4_195 (tltL hc14).2.2.2 (pc' := 198) rfl) ?_
            refine OG.ow (OG.lload C d4_198 rfl (pc' := 200) rfl) ?_
            refine OG.ow (OG.callS C (w28 hw) (w29 hw) (w5 hw) (w30 hw) (by decide) (b5 hw d15 (Sta.kp G4 Kh8 (allS (OPl.keep (Ab0).pl K1) all0)) (G5.keep Kh8 (ninS hpb nin0))) d4_200 pd_3 rfl (argsL := [(.long d15)]) (rest := []) rfl rfl (W := 0) rfl (by decide) (by decide) (pc' := 203) rfl) ?_
            refine OG.ow (OG.istore C d4_203 (ls' := #[.val (.ref x0), .val (.long x1), .second, .val (.long x3), .second, .val (.long q5), .second, .val (.long rm2), .second, .val (.int x9), .val (.int (F5 d15)), .val (.int (x11 + z12)), .val (.int z12), .val (.long t13), .second, .val (.long d15), .second]) rfl (pc' := 205) rfl) ?_
            refine OG.ow (OG.goto C d4_205 (by decide) (pc' := 96) (by decide)) ?_
            have iv := own_i2 (d15 := d15) hn I1 hc13 u3
            exact ih h8 rm2 (F5 d15) (x11 + z12) z12 t13 d15 l9 l10 l11 l12 iv.1 iv.2 (((Keep.refl h [b]).trans K1 (allS (Or.inl (List.mem_of_getElem? (i := 0) rfl)) all0)).trans Kh8 (allS (Or.inl (List.mem_of_getElem? (i := 0) rfl)) all0)) Ah8 rl9 rl10 rl11 rl12
          · refine OG.ow (OG.ifYes C d4_195 (fltL hc14).2.2.2 (by decide) (pc' := 205) (by decide)) ?_
            refine OG.ow (OG.goto C d4_205 (by decide) (pc' := 96) (by decide)) ?_
            have iv := own_i3 hn I1 hc13 hc14 u3 u4
            exact ih h8 rm2 x10 (x11 + z12) z12 t13 d15 l9 l10 l11 l12 iv.1 iv.2 (((Keep.refl h [b]).trans K1 (allS (Or.inl (List.mem_of_getElem? (i := 0) rfl)) all0)).trans Kh8 (allS (Or.inl (List.mem_of_getElem? (i := 0) rfl)) all0)) Ah8 rl9 rl10 rl11 rl12
    · refine OG.ow (OG.icmpYes C d4_101 (flt hc2).2.1 (by decide) (pc' := 208) (by decide)) ?_
      exact tlS hw C x0 b pw x1 x3 q5 Z0 gb hxb hpb E0 F0 S_pw A_pw S_dg Ab0 x9 H3 H9 rm x10 x11 x12 x13 x15 h1 l0 l1 l2 l3 ((Keep.refl h [b]).trans K1 (allS (Or.inl (List.mem_of_getElem? (i := 0) rfl)) all0)) A1 r0 r1 r2 r3
set_option maxRecDepth 65536 in
set_option maxHeartbeats 40000000 in
theorem lp0 {l : Launch} {Z : State} {a0 : Array Value} (hw : HW a0 Z) {p : Program} {e : Env} {s : State} {m : MethodId} {args : Array Value} {below : List Frame} {meth : Method} {c : Code} {n0 : Nat} {h : Heap} (C : OC p s m meth c Z "com/example/planwright/planwright/service/testing/PercentageQuotient" "workOut" prog_132_method_10_code 17 (some .int)) (x0 b pw : Addr) (x1 x3 q5 : Int64) (Z0 : n0 ≤ h.size) (gb : n0 ≤ b) (hxb : x0 ≠ b) (hpb : pw ≠ b) (E0 : Exa Z h x0 "com/example/planwright/planwright/service/testing/PercentageQuotient") (F0 : Fld Z h x0 "com/example/planwright/planwright/service/testing/PercentageQuotient" "limbs" "[J" (.ref b)) (S_pw : Sta Z h "com/example/planwright/planwright/service/testing/PercentageQuotient" "POWERS_OF_TEN" "[J" (.ref pw)) (A_pw : OA Z h pw .long PWL) (S_dg : Sta Z h "com/example/planwright/planwright/model/WorkingPrecision" "DIGITS" "I" (.int (34 : Int32))) {vs0 : List Value} (Ab0 : OA Z h b .long vs0) (x9 : Int32) (H3 : 1 ≤ x3.toInt) (H9 : 1 ≤ x9.toInt ∧ x9.toInt ≤ 9 ∧ x3.toInt * 10 ^ x9.toInt.toNat ≤ 10 ^ 18) (h1 : Heap) (rm : Int64) (x10 x11 : Int32) (l0 l1 l2 l3 : Int64) (I1 : INV x3 rm x10) (K1 : Keep h h1 [b]) (A1 : OA Z h1 b .long [(.long l0), (.long l1), (.long l2), (.long l3)]) (r0 : R9 l0) (r1 : R9 l1) (r2 : R9 l2) (r3 : R9 l3) : OW p l e ⟨1, 0, 0, 64⟩ s m args below meth c n0 (fun v h' => ∃ r : Int32, v = some (.int r) ∧ Keep h h' [b] ∧ LM Z h' b) 0 0 h1 0 0 (mkF m 96 #[.val (.ref x0), .val (.long x1), .second, .val (.long x3), .second, .val (.long q5), .second, .val (.long rm), .second, .val (.int x9), .val (.int x10), .val (.int x11), .unset, .unset, .unset, .unset, .unset] []) := by
  have hn : MEA x3 rm x10 < MEA x3 rm x10 + 1 := Nat.lt_succ_self _
  refine OG.ow (OG.iload C d4_96 rfl (pc' := 98) rfl) ?_
  have G1 := (Sta.kp S_dg K1 (allS (Ab0).pl all0))
  refine OG.ow (OG.getS C (host := "") (Or.inl (w35 hw)) Via.refl G1 d4_98 (pc' := 101) rfl) ?_
  by_cases hc2 : x10 < (34 : Int32)
  · refine OG.ow (OG.icmpNo C d4_101 (tlt hc2).2.1 (pc' := 104) rfl) ?_
    refine OG.ow (OG.lload C d4_104 rfl (pc' := 106) rfl) ?_
    refine OG.ow (OG.lconst C d4_106 (z := (0 : Int64)) rfl (pc' := 107) rfl) ?_
    refine OG.ow (OG.lcmp C d4_107 (pc' := 108) rfl) ?_
    by_cases hc3 : rm = (0 : Int64)
    · refine OG.ow (OG.ifYes C d4_108 (teqL hc3).1 (by decide) (pc' := 208) (by decide)) ?_
      exact tlU hw C x0 b pw x1 x3 q5 Z0 gb hxb hpb E0 F0 S_pw A_pw S_dg Ab0 x9 H3 H9 rm x10 x11  h1 l0 l1 l2 l3 ((Keep.refl h [b]).trans K1 (allS (Or.inl (List.mem_of_getElem? (i := 0) rfl)) all0)) A1 r0 r1 r2 r3
    · refine OG.ow (OG.ifNo C d4_108 (feqL hc3).1 (pc' := 111) rfl) ?_
      refine OG.ow (OG.iload C d4_111 rfl (pc' := 113) rfl) ?_
      refine OG.ow (OG.ite (α := Int32) (P := x10 = (0 : Int32)) (f := fun v => (mkF m 132 #[.val (.ref x0), .val (.long x1), .second, .val (.long x3), .second, .val (.long q5), .second, .val (.long rm), .second, .val (.int x9), .val (.int x10), .val (.int x11), .unset, .unset, .unset, .unset, .unset] [(.int v)])) (x := x9) (y := (F6 x9 ((34 : Int32) - x10))) (fun hc => ?_) (fun hc => ?_)) ?_
      · refine OG.trans (OG.ifNo C d4_113 ((if0 _ _).trans (teq hc).2) (pc' := 116) rfl) ?_
        refine OG.trans (OG.iload C d4_116 rfl (pc' := 118) rfl) ?_
        refine OG.trans (OG.goto C d4_118 (by decide) (pc' := 132) (by decide)) ?_
        exact OG.refl
      · refine OG.trans (OG.ifYes C d4_113 ((if0 _ _).trans (feq hc).2) (by decide) (pc' := 121) (by decide)) ?_
        refine OG.trans (OG.iload C d4_121 rfl (pc' := 123) rfl) ?_
        refine OG.trans (OG.getS C (host := "") (Or.inl (w35 hw)) Via.refl G1 d4_123 (pc' := 126) rfl) ?_
        refine OG.trans (OG.iload C d4_126 rfl (pc' := 128) rfl) ?_
        refine OG.trans (OG.isub C d4_128 (pc' := 129) rfl) ?_
        refine OG.trans (OG.callS C (w31 hw) (w32 hw) (w33 hw) (w34 hw) (by decide) (b6 hw x9 ((34 : Int32) - x10)) d4_129 pd_2 rfl (argsL := [(.int x9), (.int ((34 : Int32) - x10))]) (rest := []) rfl rfl (W := 0) rfl (by decide) (by decide) (pc' := 132) rfl) ?_
        exact OG.refl
      generalize g12 : (if x10 = (0 : Int32) then x9 else (F6 x9 ((34 : Int32) - x10))) = z12
      obtain ⟨j1, j2⟩ := own_x12 H9 I1 hc2 g12
      refine OG.ow (OG.istore C d4_132 (ls' := #[.val (.ref x0), .val (.long x1), .second, .val (.long x3), .second, .val (.long q5), .second, .val (.long rm), .second, .val (.int x9), .val (.int x10), .val (.int x11), .val (.int z12), .unset, .unset, .unset, .unset]) rfl (pc' := 134) rfl) ?_
      refine OG.ow (OG.lload C d4_134 rfl (pc' := 136) rfl) ?_
      have G4 := (Sta.kp S_pw K1 (allS (Ab0).pl all0))
      refine OG.ow (OG.getS C (host := "") (Or.inl (w20 hw)) Via.refl G4 d4_136 (pc' := 139) rfl) ?_
      refine OG.ow (OG.iload C d4_139 rfl (pc' := 141) rfl) ?_
      obtain ⟨pz, pz1, pz2⟩ := own_pwl z12 (by omega)
      have G5 := (A_pw.keep K1 (ninS hpb nin0))
      refine OG.ow (OG.laload C G5 (own_ib (n := 19) rfl (by omega)) pz1 d4_141 (pc' := 142) rfl) ?_
      refine OG.ow (OG.lmul C d4_142 (pc' := 143) rfl) ?_
      generalize g13 : (rm * pz) = t13
      refine OG.ow (OG.lstore C d4_143 (ls' := #[.val (.ref x0), .val (.long x1), .second, .val (.long x3), .second, .val (.long q5), .second, .val (.long rm), .second, .val (.int x9), .val (.int x10), .val (.int x11), .val (.int z12), .val (.long t13), .second, .unset, .unset]) rfl (pc' := 145) rfl) ?_
      refine OG.ow (OG.lload C d4_145 rfl (pc' := 147) rfl) ?_
      refine OG.ow (OG.lloadN C d4_147 rfl (pc' := 148) rfl) ?_
      refine OG.ow (OG.ldiv C d4_148 (own_nz1 H3) (pc' := 149) rfl) ?_
      generalize g15 : (t13 / x3) = d15
      refine OG.ow (OG.lstore C d4_149 (ls' := #[.val (.ref x0), .val (.long x1), .second, .val (.long x3), .second, .val (.long q5), .second, .val (.long rm), .second, .val (.int x9), .val (.int x10), .val (.int x11), .val (.int z12), .val (.long t13), .second, .val (.long d15), .second]) rfl (pc' := 151) rfl) ?_
      refine OG.ow (OG.lload C d4_151 rfl (pc' := 153) rfl) ?_
      refine OG.ow (OG.lloadN C d4_153 rfl (pc' := 154) rfl) ?_
      refine OG.ow (OG.lrem C d4_154 (own_nz1 H3) (pc' := 155) rfl) ?_
      generalize g7 : (t13 % x3) = rm2
      obtain ⟨u1, u2, u3, u4⟩ := own_turn H3 H9 I1 hc3 j1 j2 pz2 g13 g15 g7
      refine OG.ow (OG.lstore C d4_155 (ls' := #[.val (.ref x0), .val (.long x1), .second, .val (.long x3), .second, .val (.long q5), .second, .val (.long rm2), .second, .val (.int x9), .val (.int x10), .val (.int x11), .val (.int z12), .val (.long t13), .second, .val (.long d15), .second]) rfl (pc' := 157) rfl) ?_
      refine OG.ow (OG.aloadN C d4_157 rfl rfl (pc' := 158) rfl) ?_
      refine OG.ow (OG.getS C (host := "") (Or.inl (w20 hw)) Via.refl G4 d4_158 (pc' := 161) rfl) ?_
      refine OG.ow (OG.iload C d4_161 rfl (pc' := 163) rfl) ?_
      refine OG.ow (OG.laload C G5 (own_ib (n := 19) rfl (by omega)) pz1 d4_163 (pc' := 164) rfl) ?_
      refine OG.ow (OG.lload C d4_164 rfl (pc' := 166) rfl) ?_
      have G6 := (F0.keep K1 (ninS hxb nin0))
      have G7 := (E0.keep K1)
      refine OW.callP C (w38 hw) (w4 hw) (w40 hw) (w39 hw) (w5 hw) (w41 hw) (by decide) G7 (b7 hw x0 pz d15 (Nat.le_trans Z0 K1.1) gb G6 A1 hxb r0 r1 r2 r3 u1 u2) d4_166 pd_1 rfl (argsL := [(.long pz), (.long d15)]) (rest := []) rfl rfl (W := 0) rfl (by decide) (by decide) (by decide) (by decide) (pc' := 169) rfl ?_
      intro vh8 h8 qh8
      obtain ⟨rfl, Kh8, l9, l10, l11, l12, Ah8, rl9, rl10, rl11, rl12⟩ := qh8
      refine OG.ow (OG.iload C d4_169 rfl (pc' := 171) rfl) ?_
      refine OG.ow (OG.iload C d4_171 rfl (pc' := 173) rfl) ?_
      refine OG.ow (OG.iadd C d4_173 (pc' := 174) rfl) ?_
      refine OG.ow (OG.istore C d4_174 (ls' := #[.val (.ref x0), .val (.long x1), .second, .val (.long x3), .second, .val (.long q5), .second, .val (.long rm2), .second, .val (.int x9), .val (.int x10), .val (.int (x11 + z12)), .val (.int z12), .val (.long t13), .second, .val (.long d15), .second]) rfl (pc' := 176) rfl) ?_
      refine OG.ow (OG.iload C d4_176 rfl (pc' := 178) rfl) ?_
      by_cases hc13 : (0 : Int32) < x10
      · refine OG.ow (OG.ifNo C d4_178 ((if0 _ _).trans (tlt hc13).2.2.2) (pc' := 181) rfl) ?_
        refine OG.ow (OG.iload C d4_181 rfl (pc' := 183) rfl) ?_
        refine OG.ow (OG.iload C d4_183 rfl (pc' := 185) rfl) ?_
        refine OG.ow (OG.iadd C d4_185 (pc' := 186) rfl) ?_
        refine OG.ow (OG.istore C d4_186 (ls' := #[.val (.ref x0), .val (.long x1), .second, .val (.long x3), .second, .val (.long q5), .second, .val (.long rm2), .second, .val (.int x9), .val (.int (x10 + z12)), .val (.int (x11 + z12)), .val (.int z12), .val (.long t13), .second, .val (.long d15), .second]) rfl (pc' := 188) rfl) ?_
        refine OG.ow (OG.goto C d4_188 (by decide) (pc' := 205) (by decide)) ?_
        refine OG.ow (OG.goto C d4_205 (by decide) (pc' := 96) (by decide)) ?_
        have iv := own_i1 hn I1 hc2 hc13 j1 j2 H9 u3
        exact lp1 hw C x0 b pw x1 x3 q5 Z0 gb hxb hpb E0 F0 S_pw A_pw S_dg Ab0 x9 H3 H9 (MEA x3 rm x10) h8 rm2 (x10 + z12) (x11 + z12) z12 t13 d15 l9 l10 l11 l12 iv.1 iv.2 (((Keep.refl h [b]).trans K1 (allS (Or.inl (List.mem_of_getElem? (i := 0) rfl)) all0)).trans Kh8 (allS (Or.inl (List.mem_of_getElem? (i := 0) rfl)) all0)) Ah8 rl9 rl10 rl11 rl12
      · refine OG.ow (OG.ifYes C d4_178 ((if0 _ _).trans (flt hc13).2.2.2) (by decide) (pc' := 191) (by decide)) ?_
        refine OG.ow (OG.lload C d4_191 rfl (pc' := 193) rfl) ?_
        refine OG.ow (OG.lconst C d4_193 (z := (0 : Int64)) rfl (pc' := 194) rfl) ?_
        refine OG.ow (OG.lcmp C d4_194 (pc' := 195) rfl) ?_
        by_cases hc14 : (0 : Int64) < d15
        · refine OG.ow (OG.ifNo C d4_195 (tltL hc14).2.2.2 (pc' := 198) rfl) ?_
          refine OG.ow (OG.lload C d4_198 rfl (pc' := 200) rfl) ?_
          refine OG.ow (OG.callS C (w28 hw) (w29 hw) (w5 hw) (w30 hw) (by decide) (b5 hw d15 (Sta.kp G4 Kh8 (allS (OPl.keep (Ab0).pl K1) all0)) (G5.keep Kh8 (ninS hpb nin0))) d4_200 pd_3 rfl (argsL := [(.long d15)]) (rest := []) rfl rfl (W := 0) rfl (by decide) (by decide) (pc' := 203) rfl) ?_
          refine OG.ow (OG.istore C d4_203 (ls' := #[.val (.ref x0), .val (.long x1), .second, .val (.long x3), .second, .val (.long q5), .second, .val (.long rm2), .second, .val (.int x9), .val (.int (F5 d15)), .val (.int (x11 + z12)), .val (.int z12), .val (.long t13), .second, .val (.long d15), .second]) rfl (pc' := 205) rfl) ?_
          refine OG.ow (OG.goto C d4_205 (by decide) (pc' := 96) (by decide)) ?_
          have iv := own_i2 (d15 := d15) hn I1 hc13 u3
          exact lp1 hw C x0 b pw x1 x3 q5 Z0 gb hxb hpb E0 F0 S_pw A_pw S_dg Ab0 x9 H3 H9 (MEA x3 rm x10) h8 rm2 (F5 d15) (x11 + z12) z12 t13 d15 l9 l10 l11 l12 iv.1 iv.2 (((Keep.refl h [b]).trans K1 (allS (Or.inl (List.mem_of_getElem? (i := 0) rfl)) all0)).trans Kh8 (allS (Or.inl (List.mem_of_getElem? (i := 0) rfl)) all0)) Ah8 rl9 rl10 rl11 rl12
        · refine OG.ow (OG.ifYes C d4_195 (fltL hc14).2.2.2 (by decide) (pc' := 205) (by decide)) ?_
          refine OG.ow (OG.goto C d4_205 (by decide) (pc' := 96) (by decide)) ?_
          have iv := own_i3 hn I1 hc13 hc14 u3 u4
          exact lp1 hw C x0 b pw x1 x3 q5 Z0 gb hxb hpb E0 F0 S_pw A_pw S_dg Ab0 x9 H3 H9 (MEA x3 rm x10) h8 rm2 x10 (x11 + z12) z12 t13 d15 l9 l10 l11 l12 iv.1 iv.2 (((Keep.refl h [b]).trans K1 (allS (Or.inl (List.mem_of_getElem? (i := 0) rfl)) all0)).trans Kh8 (allS (Or.inl (List.mem_of_getElem? (i := 0) rfl)) all0)) Ah8 rl9 rl10 rl11 rl12
  · refine OG.ow (OG.icmpYes C d4_101 (flt hc2).2.1 (by decide) (pc' := 208) (by decide)) ?_
    exact tlU hw C x0 b pw x1 x3 q5 Z0 gb hxb hpb E0 F0 S_pw A_pw S_dg Ab0 x9 H3 H9 rm x10 x11  h1 l0 l1 l2 l3 ((Keep.refl h [b]).trans K1 (allS (Or.inl (List.mem_of_getElem? (i := 0) rfl)) all0)) A1 r0 r1 r2 r3
set_option maxRecDepth 65536 in
set_option maxHeartbeats 40000000 in
theorem b4 {l : Launch} {Z : State} {a0 : Array Value} (hw : HW a0 Z) (x0 : Addr) (x1 : Int64) (x3 : Int64) {b pw : Addr} {l0 l1 l2 l3 : Int64} {n0 : Nat} {h : Heap} (Z0 : n0 ≤ h.size) (gb : n0 ≤ b) (E0 : Exa Z h x0 "com/example/planwright/planwright/service/testing/PercentageQuotient") (F0 : Fld Z h x0 "com/example/planwright/planwright/service/testing/PercentageQuotient" "limbs" "[J" (.ref b)) (S_pw : Sta Z h "com/example/planwright/planwright/service/testing/PercentageQuotient" "POWERS_OF_TEN" "[J" (.ref pw)) (A_pw : OA Z h pw .long PWL) (S_dg : Sta Z h "com/example/planwright/planwright/model/WorkingPrecision" "DIGITS" "I" (.int (34 : Int32))) (A0 : OA Z h b .long [(.long l0), (.long l1), (.long l2), (.long l3)]) (hxb : x0 ≠ b) (hpb : pw ≠ b) (H1 : 0 ≤ x1.toInt) (H3 : 1 ≤ x3.toInt) (H3' : x3.toInt < 10 ^ 17) : OM l Z (⟨"com/example/planwright/planwright/service/testing/PercentageQuotient", "workOut", "(JJ)I"⟩ : MethodName) prog_132_method_10_code 17 (some .int) ⟨1, 0, 0, 64⟩ n0 h #[(.ref x0), (.long x1), (.long x3)] (fun v h' => ∃ r : Int32, v = some (.int r) ∧ Keep h h' [b] ∧ LM Z h' b) 0 0 := by
  refine OM.of_body (ls := #[.val (.ref x0), .val (.long x1), .second, .val (.long x3), .second, .unset, .unset, .unset, .unset, .unset, .unset, .unset, .unset, .unset, .unset, .unset, .unset]) (plainFor_of_name pn_0) (fun m => by first | (simp [entryFrame, mkF, argsToLocals, Value.category]; done) | rfl) ?_
  intro p e s m below meth c C
  refine OG.ow (OG.lloadN C d4_0 rfl (pc' := 1) rfl) ?_
  refine OG.ow (OG.lloadN C d4_1 rfl (pc' := 2) rfl) ?_
  refine OG.ow (OG.ldiv C d4_2 (own_nz1 H3) (pc' := 3) rfl) ?_
  generalize gq : (x1 / x3) = q5
  have Hq := own_q5 H1 H3 gq
  refine OG.ow (OG.lstore C d4_3 (ls' := #[.val (.ref x0), .val (.long x1), .second, .val (.long x3), .second, .val (.long q5), .second, .unset, .unset, .unset, .unset, .unset, .unset, .unset, .unset, .unset, .unset]) rfl (pc' := 5) rfl) ?_
  refine OG.ow (OG.lloadN C d4_5 rfl (pc' := 6) rfl) ?_
  refine OG.ow (OG.lloadN C d4_6 rfl (pc' := 7) rfl) ?_
  refine OG.ow (OG.lrem C d4_7 (own_nz1 H3) (pc' := 8) rfl) ?_
  generalize gr : (x1 % x3) = rm
  refine OG.ow (OG.lstore C d4_8 (ls' := #[.val (.ref x0), .val (.long x1), .second, .val (.long x3), .second, .val (.long q5), .second, .val (.long rm), .second, .unset, .unset, .unset, .unset, .unset, .unset, .unset, .unset]) rfl (pc' := 10) rfl) ?_
  refine OG.ow (OG.aloadN C d4_10 rfl rfl (pc' := 11) rfl) ?_
  refine OG.ow (OG.getF C (host := "") (Or.inl (w13 hw)) Via.refl F0 d4_11 (pc' := 14) rfl) ?_
  refine OG.ow (OG.iconst C d4_14 (z := (0 : Int32)) rfl (pc' := 15) rfl) ?_
  refine OG.ow (OG.lload C d4_15 rfl (pc' := 17) rfl) ?_
  refine OG.ow (OG.ldcL C (w27 hw) d4_17 (pc' := 20) rfl) ?_
  refine OG.ow (OG.lrem C d4_20 (by decide) (pc' := 21) rfl) ?_
  refine OW.lastore C A0 (own_ib (n := 4) rfl (by decide)) gb d4_21 (pc' := 22) rfl ?_
  intro h1 Wh1
  have G2 : OA Z h1 b .long [(.long (q5 % (1000000000 : Int64))), (.long l1), (.long l2), (.long l3)] := OA.same A0 Wh1
  refine OG.ow (OG.aloadN C d4_22 rfl rfl (pc' := 23) rfl) ?_
  have G3 := (Fld.other Wh1 F0 (Or.inl hxb))
  refine OG.ow (OG.getF C (host := "") (Or.inl (w13 hw)) Via.refl G3 d4_23 (pc' := 26) rfl) ?_
  refine OG.ow (OG.iconst C d4_26 (z := (1 : Int32)) rfl (pc' := 27) rfl) ?_
  refine OG.ow (OG.lload C d4_27 rfl (pc' := 29) rfl) ?_
  refine OG.ow (OG.ldcL C (w27 hw) d4_29 (pc' := 32) rfl) ?_
  refine OG.ow (OG.ldiv C d4_32 (by decide) (pc' := 33) rfl) ?_
  refine OG.ow (OG.ldcL C (w27 hw) d4_33 (pc' := 36) rfl) ?_
  refine OG.ow (OG.lrem C d4_36 (by decide) (pc' := 37) rfl) ?_
  refine OW.lastore C G2 (own_ib (n := 4) rfl (by decide)) gb d4_37 (pc' := 38) rfl ?_
  intro h4 Wh4
  have G5 : OA Z h4 b .long [(.long (q5 % (1000000000 : Int64))), (.long ((q5 / (1000000000 : Int64)) % (1000000000 : Int64))), (.long l2), (.long l3)] := OA.same G2 Wh4
  refine OG.ow (OG.aloadN C d4_38 rfl rfl (pc' := 39) rfl) ?_
  have G6 := (Fld.other Wh4 G3 (Or.inl hxb))
  refine OG.ow (OG.getF C (host := "") (Or.inl (w13 hw)) Via.refl G6 d4_39 (pc' := 42) rfl) ?_
  refine OG.ow (OG.iconst C d4_42 (z := (2 : Int32)) rfl (pc' := 43) rfl) ?_
  refine OG.ow (OG.lload C d4_43 rfl (pc' := 45) rfl) ?_
  refine OG.ow (OG.ldcL C (w27 hw) d4_45 (pc' := 48) rfl) ?_
  refine OG.ow (OG.ldiv C d4_48 (by decide) (pc' := 49) rfl) ?_
  refine OG.ow (OG.ldcL C (w27 hw) d4_49 (pc' := 52) rfl) ?_
  refine OG.ow (OG.ldiv C d4_52 (by decide) (pc' := 53) rfl) ?_
  refine OW.lastore C G5 (own_ib (n := 4) rfl (by decide)) gb d4_53 (pc' := 54) rfl ?_
  intro h7 Wh7
  have G8 : OA Z h7 b .long [(.long (q5 % (1000000000 : Int64))), (.long ((q5 / (1000000000 : Int64)) % (1000000000 : Int64))), (.long ((q5 / (1000000000 : Int64)) / (1000000000 : Int64))), (.long l3)] := OA.same G5 Wh7
  refine OG.ow (OG.aloadN C d4_54 rfl rfl (pc' := 55) rfl) ?_
  have G9 := (Fld.other Wh7 G6 (Or.inl hxb))
  refine OG.ow (OG.getF C (host := "") (Or.inl (w13 hw)) Via.refl G9 d4_55 (pc' := 58) rfl) ?_
  refine OG.ow (OG.iconst C d4_58 (z := (3 : Int32)) rfl (pc' := 59) rfl) ?_
  refine OG.ow (OG.lconst C d4_59 (z := (0 : Int64)) rfl (pc' := 60) rfl) ?_
  refine OW.lastore C G8 (own_ib (n := 4) rfl (by decide)) gb d4_60 (pc' := 61) rfl ?_
  intro h10 Wh10
  have G11 : OA Z h10 b .long [(.long (q5 % (1000000000 : Int64))), (.long ((q5 / (1000000000 : Int64)) % (1000000000 : Int64))), (.long ((q5 / (1000000000 : Int64)) / (1000000000 : Int64))), (.long (0 : Int64))] := OA.same G8 Wh10
  refine OG.ow (OG.bipush C d4_61 (z := (9 : Int32)) (by decide) (pc' := 63) rfl) ?_
  refine OG.ow (OG.bipush C d4_63 (z := (18 : Int32)) (by decide) (pc' := 65) rfl) ?_
  refine OG.ow (OG.lloadN C d4_65 rfl (pc' := 66) rfl) ?_
  refine OG.ow (OG.callS C (w28 hw) (w29 hw) (w5 hw) (w30 hw) (by decide) (b5 hw x3 (Sta.wr Wh10 (Sta.wr Wh7 (Sta.wr Wh4 (Sta.wr Wh1 S_pw)))) (OA.other (OA.other (OA.other (OA.other A_pw Wh1 hpb) Wh4 hpb) Wh7 hpb) Wh10 hpb)) d4_66 pd_3 rfl (argsL := [(.long x3)]) (rest := [(.int (18 : Int32)), (.int (9 : Int32))]) rfl rfl (W := 2) rfl (by decide) (by decide) (pc' := 69) rfl) ?_
  refine OG.ow (OG.isub C d4_69 (pc' := 70) rfl) ?_
  refine OG.ow (OG.callS C (w31 hw) (w32 hw) (w33 hw) (w34 hw) (by decide) (b6 hw (9 : Int32) ((18 : Int32) - (F5 x3))) d4_70 pd_2 rfl (argsL := [(.int (9 : Int32)), (.int ((18 : Int32) - (F5 x3)))]) (rest := []) rfl rfl (W := 0) rfl (by decide) (by decide) (pc' := 73) rfl) ?_
  generalize g9 : (F6 (9 : Int32) ((18 : Int32) - (F5 x3))) = x9
  have H9 := own_x9 H3 H3' g9
  refine OG.ow (OG.istore C d4_73 (ls' := #[.val (.ref x0), .val (.long x1), .second, .val (.long x3), .second, .val (.long q5), .second, .val (.long rm), .second, .val (.int x9), .unset, .unset, .unset, .unset, .unset, .unset, .unset]) rfl (pc' := 75) rfl) ?_
  refine OG.ow (OG.lload C d4_75 rfl (pc' := 77) rfl) ?_
  refine OG.ow (OG.lconst C d4_77 (z := (0 : Int64)) rfl (pc' := 78) rfl) ?_
  refine OG.ow (OG.lcmp C d4_78 (pc' := 79) rfl) ?_
  refine OG.ow (OG.ite (α := Int32) (P := q5 = (0 : Int64)) (f := fun v => (mkF m 91 #[.val (.ref x0), .val (.long x1), .second, .val (.long x3), .second, .val (.long q5), .second, .val (.long rm), .second, .val (.int x9), .unset, .unset, .unset, .unset, .unset, .unset, .unset] [(.int v)])) (x := (0 : Int32)) (y := (F5 q5)) (fun hc => ?_) (fun hc => ?_)) ?_
  · refine OG.trans (OG.ifNo C d4_79 (teqL hc).2 (pc' := 82) rfl) ?_
    refine OG.trans (OG.iconst C d4_82 (z := (0 : Int32)) rfl (pc' := 83) rfl) ?_
    refine OG.trans (OG.goto C d4_83 (by decide) (pc' := 91) (by decide)) ?_
    exact OG.refl
  · refine OG.trans (OG.ifYes C d4_79 (feqL hc).2 (by decide) (pc' := 86) (by decide)) ?_
    refine OG.trans (OG.lload C d4_86 rfl (pc' := 88) rfl) ?_
    refine OG.trans (OG.callS C (w28 hw) (w29 hw) (w5 hw) (w30 hw) (by decide) (b5 hw q5 (Sta.wr Wh10 (Sta.wr Wh7 (Sta.wr Wh4 (Sta.wr Wh1 S_pw)))) (OA.other (OA.other (OA.other (OA.other A_pw Wh1 hpb) Wh4 hpb) Wh7 hpb) Wh10 hpb)) d4_88 pd_3 rfl (argsL := [(.long q5)]) (rest := []) rfl rfl (W := 0) rfl (by decide) (by decide) (pc' := 91) rfl) ?_
    exact OG.refl
  generalize g10 : (if q5 = (0 : Int64) then (0 : Int32) else (F5 q5)) = x10
  have I10 := own_x10 g10
  refine OG.ow (OG.istore C d4_91 (ls' := #[.val (.ref x0), .val (.long x1), .second, .val (.long x3), .second, .val (.long q5), .second, .val (.long rm), .second, .val (.int x9), .val (.int x10), .unset, .unset, .unset, .unset, .unset, .unset]) rfl (pc' := 93) rfl) ?_
  refine OG.ow (OG.iconst C d4_93 (z := (0 : Int32)) rfl (pc' := 94) rfl) ?_
  refine OG.ow (OG.istore C d4_94 (ls' := #[.val (.ref x0), .val (.long x1), .second, .val (.long x3), .second, .val (.long q5), .second, .val (.long rm), .second, .val (.int x9), .val (.int x10), .val (.int (0 : Int32)), .unset, .unset, .unset, .unset, .unset]) rfl (pc' := 96) rfl) ?_
  exact lp0 hw C x0 b pw x1 x3 q5 Z0 gb hxb hpb E0 F0 S_pw A_pw S_dg A0 x9 H3 H9 h10 rm x10 (0 : Int32) _ _ _ _ (own_inv H1 H3 gr I10) (((((Keep.refl h [b]).wr Wh1 (Or.inl (List.mem_of_getElem? (i := 0) rfl))).wr Wh4 (Or.inl (List.mem_of_getElem? (i := 0) rfl))).wr Wh7 (Or.inl (List.mem_of_getElem? (i := 0) rfl))).wr Wh10 (Or.inl (List.mem_of_getElem? (i := 0) rfl))) G11 (own_l0 Hq) (own_l1 Hq) (own_l2' Hq) own_r0
theorem d3_0 : decode prog_132_method_3_code 0 = .ok (.lload_n 1, 1) := by decide +kernel
theorem d3_1 : decode prog_132_method_3_code 1 = .ok (.lconst 0, 1) := by decide +kernel
theorem d3_2 : decode prog_132_method_3_code 2 = .ok (.lcmp, 1) := by decide +kernel
theorem d3_3 : decode prog_132_method_3_code 3 = .ok (.ifCond .lt 37, 3) := by decide +kernel
theorem d3_6 : decode prog_132_method_3_code 6 = .ok (.lload 4, 2) := by decide +kernel
theorem d3_8 : decode prog_132_method_3_code 8 = .ok (.lconst 0, 1) := by decide +kernel
theorem d3_9 : decode prog_132_method_3_code 9 = .ok (.lcmp, 1) := by decide +kernel
theorem d3_10 : decode prog_132_method_3_code 10 = .ok (.ifCond .le 30, 3) := by decide +kernel
theorem d3_13 : decode prog_132_method_3_code 13 = .ok (.lload_n 1, 1) := by decide +kernel
theorem d3_14 : decode prog_132_method_3_code 14 = .ok (.getstatic 30, 3) := by decide +kernel
theorem d3_17 : decode prog_132_method_3_code 17 = .ok (.bipush 16, 2) := by decide +kernel
theorem d3_19 : decode prog_132_method_3_code 19 = .ok (.laload, 1) := by decide +kernel
theorem d3_20 : decode prog_132_method_3_code 20 = .ok (.lcmp, 1) := by decide +kernel
theorem d3_21 : decode prog_132_method_3_code 21 = .ok (.ifCond .ge 19, 3) := by decide +kernel
theorem d3_24 : decode prog_132_method_3_code 24 = .ok (.lload 4, 2) := by decide +kernel
theorem d3_26 : decode prog_132_method_3_code 26 = .ok (.getstatic 30, 3) := by decide +kernel
theorem d3_29 : decode prog_132_method_3_code 29 = .ok (.bipush 17, 2) := by decide +kernel
theorem d3_31 : decode prog_132_method_3_code 31 = .ok (.laload, 1) := by decide +kernel
theorem d3_32 : decode prog_132_method_3_code 32 = .ok (.lcmp, 1) := by decide +kernel
theorem d3_33 : decode prog_132_method_3_code 33 = .ok (.ifCond .ge 7, 3) := by decide +kernel
theorem d3_36 : decode prog_132_method_3_code 36 = .ok (.iconst 1, 1) := by decide +kernel
theorem d3_37 : decode prog_132_method_3_code 37 = .ok (.goto 4, 3) := by decide +kernel
theorem d3_40 : decode prog_132_method_3_code 40 = .ok (.iconst 0, 1) := by decide +kernel
theorem d3_41 : decode prog_132_method_3_code 41 = .ok (.istore 7, 2) := by decide +kernel
theorem d3_43 : decode prog_132_method_3_code 43 = .ok (.iload 7, 2) := by decide +kernel
theorem d3_45 : decode prog_132_method_3_code 45 = .ok (.ifCond .eq 60, 3) := by decide +kernel
theorem d3_48 : decode prog_132_method_3_code 48 = .ok (.aload_n 0, 1) := by decide +kernel
theorem d3_49 : decode prog_132_method_3_code 49 = .ok (.lload_n 1, 1) := by decide +kernel
theorem d3_50 : decode prog_132_method_3_code 50 = .ok (.ldc2_w 33, 3) := by decide +kernel
theorem d3_53 : decode prog_132_method_3_code 53 = .ok (.lmul, 1) := by decide +kernel
theorem d3_54 : decode prog_132_method_3_code 54 = .ok (.lload 4, 2) := by decide +kernel
theorem d3_56 : decode prog_132_method_3_code 56 = .ok (.invokevirtual 35, 3) := by decide +kernel
theorem d3_59 : decode prog_132_method_3_code 59 = .ok (.i2l, 1) := by decide +kernel
theorem d3_60 : decode prog_132_method_3_code 60 = .ok (.lstore 8, 2) := by decide +kernel
theorem d3_62 : decode prog_132_method_3_code 62 = .ok (.lload 8, 2) := by decide +kernel
theorem d3_64 : decode prog_132_method_3_code 64 = .ok (.iload_n 3, 1) := by decide +kernel
theorem d3_65 : decode prog_132_method_3_code 65 = .ok (.i2l, 1) := by decide +kernel
theorem d3_66 : decode prog_132_method_3_code 66 = .ok (.ladd, 1) := by decide +kernel
theorem d3_67 : decode prog_132_method_3_code 67 = .ok (.iload 6, 2) := by decide +kernel
theorem d3_69 : decode prog_132_method_3_code 69 = .ok (.i2l, 1) := by decide +kernel
theorem d3_70 : decode prog_132_method_3_code 70 = .ok (.lsub, 1) := by decide +kernel
theorem d3_71 : decode prog_132_method_3_code 71 = .ok (.lstore 10, 2) := by decide +kernel
theorem d3_73 : decode prog_132_method_3_code 73 = .ok (.lload 10, 2) := by decide +kernel
theorem d3_75 : decode prog_132_method_3_code 75 = .ok (.ldc2_w 41, 3) := by decide +kernel
theorem d3_78 : decode prog_132_method_3_code 78 = .ok (.lcmp, 1) := by decide +kernel
theorem d3_79 : decode prog_132_method_3_code 79 = .ok (.ifCond .lt 16, 3) := by decide +kernel
theorem d3_82 : decode prog_132_method_3_code 82 = .ok (.lload 10, 2) := by decide +kernel
theorem d3_84 : decode prog_132_method_3_code 84 = .ok (.ldc2_w 43, 3) := by decide +kernel
theorem d3_87 : decode prog_132_method_3_code 87 = .ok (.lcmp, 1) := by decide +kernel
theorem d3_88 : decode prog_132_method_3_code 88 = .ok (.ifCond .gt 7, 3) := by decide +kernel
theorem d3_91 : decode prog_132_method_3_code 91 = .ok (.iconst 1, 1) := by decide +kernel
theorem d3_92 : decode prog_132_method_3_code 92 = .ok (.goto 4, 3) := by decide +kernel
theorem d3_95 : decode prog_132_method_3_code 95 = .ok (.iconst 0, 1) := by decide +kernel
theorem d3_96 : decode prog_132_method_3_code 96 = .ok (.istore 7, 2) := by decide +kernel
theorem d3_98 : decode prog_132_method_3_code 98 = .ok (.aload_n 0, 1) := by decide +kernel
theorem d3_99 : decode prog_132_method_3_code 99 = .ok (.lload 10, 2) := by decide +kernel
theorem d3_101 : decode prog_132_method_3_code 101 = .ok (.l2i, 1) := by decide +kernel
theorem d3_102 : decode prog_132_method_3_code 102 = .ok (.putfield 45, 3) := by decide +kernel
theorem d3_105 : decode prog_132_method_3_code 105 = .ok (.iload 7, 2) := by decide +kernel
theorem d3_107 : decode prog_132_method_3_code 107 = .ok (.ireturn, 1) := by decide +kernel
set_option maxRecDepth 65536 in
set_option maxHeartbeats 40000000 in
theorem b3 {l : Launch} {Z : State} {a0 : Array Value} (hw : HW a0 Z) (x0 : Addr) (x1 : Int64) (x2 : Int32) (x3 : Int64) (x4 : Int32) {b pw : Addr} {l0 l1 l2 l3 : Int64} {sc : Int32} {n0 : Nat} {h : Heap} (Z0 : n0 ≤ h.size) (g0 : n0 ≤ x0) (gb : n0 ≤ b) (E0 : Exa Z h x0 "com/example/planwright/planwright/service/testing/PercentageQuotient") (F0 : Fld Z h x0 "com/example/planwright/planwright/service/testing/PercentageQuotient" "limbs" "[J" (.ref b)) (F1 : Fld Z h x0 "com/example/planwright/planwright/service/testing/PercentageQuotient" "scale" "I" (.int sc)) (A0 : OA Z h b .long [(.long l0), (.long l1), (.long l2), (.long l3)]) (S_pw : Sta Z h "com/example/planwright/planwright/service/testing/PercentageQuotient" "POWERS_OF_TEN" "[J" (.ref pw)) (A_pw : OA Z h pw .long PWL) (S_dg : Sta Z h "com/example/planwright/planwright/model/WorkingPrecision" "DIGITS" "I" (.int (34 : Int32))) (hxb : x0 ≠ b) (hpb : pw ≠ b) (r0 : R9 l0) (r1 : R9 l1) (r2 : R9 l2) (r3 : R9 l3) (hm : 0 ≤ x1.toInt ∧ x1.toInt < 10 ^ 16) (hy : 1 ≤ x3.toInt ∧ x3.toInt < 10 ^ 17) : OM l Z (⟨"com/example/planwright/planwright/service/testing/PercentageQuotient", "divide", "(JIJI)Z"⟩ : MethodName) prog_132_method_3_code 12 (some .boolean) ⟨2, 0, 0, 92⟩ n0 h #[(.ref x0), (.long x1), (.int x2), (.long x3), (.int x4)] (fun v h' => ∃ z c : Int32, v = some (.int z) ∧ Keep h h' [x0, b] ∧ Fld Z h' x0 "com/example/planwright/planwright/service/testing/PercentageQuotient" "limbs" "[J" (.ref b) ∧ Fld Z h' x0 "com/example/planwright/planwright/service/testing/PercentageQuotient" "scale" "I" (.int c) ∧ LM Z h' b) 0 0 := by
  refine OM.of_body (ls := #[.val (.ref x0), .val (.long x1), .second, .val (.int x2), .val (.long x3), .second, .val (.int x4), .unset, .unset, .unset, .unset, .unset]) (plainFor_of_name pn_0) (fun m => by first | (simp [entryFrame, mkF, argsToLocals, Value.category]; done) | rfl) ?_
  intro p e s m below meth c C
  refine OG.ow (OG.lloadN C d3_0 rfl (pc' := 1) rfl) ?_
  refine OG.ow (OG.lconst C d3_1 (z := (0 : Int64)) rfl (pc' := 2) rfl) ?_
  refine OG.ow (OG.lcmp C d3_2 (pc' := 3) rfl) ?_
  refine OG.ow (OG.ifNo C d3_3 (fltL (own_v0 hm)).1 (pc' := 6) rfl) ?_
  refine OG.ow (OG.lload C d3_6 rfl (pc' := 8) rfl) ?_
  refine OG.ow (OG.lconst C d3_8 (z := (0 : Int64)) rfl (pc' := 9) rfl) ?_
  refine OG.ow (OG.lcmp C d3_9 (pc' := 10) rfl) ?_
  refine OG.ow (OG.ifNo C d3_10 (tltL (own_v1 hy)).2.2.2 (pc' := 13) rfl) ?_
  refine OG.ow (OG.lloadN C d3_13 rfl (pc' := 14) rfl) ?_
  refine OG.ow (OG.getS C (host := "") (Or.inl (w20 hw)) Via.refl S_pw d3_14 (pc' := 17) rfl) ?_
  refine OG.ow (OG.bipush C d3_17 (z := (16 : Int32)) (by decide) (pc' := 19) rfl) ?_
  refine OG.ow (OG.laload C A_pw (own_ib (n := 19) rfl (by decide)) rfl d3_19 (pc' := 20) rfl) ?_
  refine OG.ow (OG.lcmp C d3_20 (pc' := 21) rfl) ?_
  refine OG.ow (OG.ifNo C d3_21 (tltL (own_v2 hm)).2.1 (pc' := 24) rfl) ?_
  refine OG.ow (OG.lload C d3_24 rfl (pc' := 26) rfl) ?_
  refine OG.ow (OG.getS C (host := "") (Or.inl (w20 hw)) Via.refl S_pw d3_26 (pc' := 29) rfl) ?_
  refine OG.ow (OG.bipush C d3_29 (z := (17 : Int32)) (by decide) (pc' := 31) rfl) ?_
  refine OG.ow (OG.laload C A_pw (own_ib (n := 19) rfl (by decide)) rfl d3_31 (pc' := 32) rfl) ?_
  refine OG.ow (OG.lcmp C d3_32 (pc' := 33) rfl) ?_
  refine OG.ow (OG.ifNo C d3_33 (tltL (own_v3 hy)).2.1 (pc' := 36) rfl) ?_
  refine OG.ow (OG.iconst C d3_36 (z := (1 : Int32)) rfl (pc' := 37) rfl) ?_
  refine OG.ow (OG.goto C d3_37 (by decide) (pc' := 41) (by decide)) ?_
  refine OG.ow (OG.istore C d3_41 (ls' := #[.val (.ref x0), .val (.long x1), .second, .val (.int x2), .val (.long x3), .second, .val (.int x4), .val (.int (1 : Int32)), .unset, .unset, .unset, .unset]) rfl (pc' := 43) rfl) ?_
  refine OG.ow (OG.iload C d3_43 rfl (pc' := 45) rfl) ?_
  refine OG.ow (OG.ifNo C d3_45 ((if0 _ _).trans (feq (by decide : ¬ ((1 : Int32) = (0 : Int32)))).1) (pc' := 48) rfl) ?_
  refine OG.ow (OG.aloadN C d3_48 rfl rfl (pc' := 49) rfl) ?_
  refine OG.ow (OG.lloadN C d3_49 rfl (pc' := 50) rfl) ?_
  refine OG.ow (OG.ldcL C (w22 hw) d3_50 (pc' := 53) rfl) ?_
  refine OG.ow (OG.lmul C d3_53 (pc' := 54) rfl) ?_
  refine OG.ow (OG.lload C d3_54 rfl (pc' := 56) rfl) ?_
  refine OW.callP C (w23 hw) (w4 hw) (w25 hw) (w24 hw) (w5 hw) (w26 hw) (by decide) E0 (b4 hw x0 (x1 * (100 : Int64)) x3 Z0 gb E0 F0 S_pw A_pw S_dg A0 hxb hpb (own_100 hm) hy.1 hy.2) d3_56 pd_4 rfl (argsL := [(.long (x1 * (100 : Int64))), (.long x3)]) (rest := []) rfl rfl (W := 0) rfl (by decide) (by decide) (by decide) (by decide) (pc' := 59) rfl ?_
  intro vh1 h1 qh1
  obtain ⟨z2, rfl, Kh1, l3, l4, l5, l6, Ah1, rl3, rl4, rl5, rl6⟩ := qh1
  refine OG.ow (OG.i2l C d3_59 (pc' := 60) rfl) ?_
  refine OG.ow (OG.lstore C d3_60 (ls' := #[.val (.ref x0), .val (.long x1), .second, .val (.int x2), .val (.long x3), .second, .val (.int x4), .val (.int (1 : Int32)), .val (.long z2.toInt64), .second, .unset, .unset]) rfl (pc' := 62) rfl) ?_
  refine OG.ow (OG.lload C d3_62 rfl (pc' := 64) rfl) ?_
  refine OG.ow (OG.iloadN C d3_64 rfl (pc' := 65) rfl) ?_
  refine OG.ow (OG.i2l C d3_65 (pc' := 66) rfl) ?_
  refine OG.ow (OG.ladd C d3_66 (pc' := 67) rfl) ?_
  refine OG.ow (OG.iload C d3_67 rfl (pc' := 69) rfl) ?_
  refine OG.ow (OG.i2l C d3_69 (pc' := 70) rfl) ?_
  refine OG.ow (OG.lsub C d3_70 (pc' := 71) rfl) ?_
  refine OG.ow (OG.lstore C d3_71 (ls' := #[.val (.ref x0), .val (.long x1), .second, .val (.int x2), .val (.long x3), .second, .val (.int x4), .val (.int (1 : Int32)), .val (.long z2.toInt64), .second, .val (.long ((z2.toInt64 + x2.toInt64) - x4.toInt64)), .second]) rfl (pc' := 73) rfl) ?_
  refine OG.ow (OG.lload C d3_73 rfl (pc' := 75) rfl) ?_
  refine OG.ow (OG.ldcL C (w42 hw) d3_75 (pc' := 78) rfl) ?_
  refine OG.ow (OG.lcmp C d3_78 (pc' := 79) rfl) ?_
  refine OG.ow (OG.ite (α := Int32) (P := ((z2.toInt64 + x2.toInt64) - x4.toInt64) < (-2147483648 : Int64)) (f := fun v => (mkF m 96 #[.val (.ref x0), .val (.long x1), .second, .val (.int x2), .val (.long x3), .second, .val (.int x4), .val (.int (1 : Int32)), .val (.long z2.toInt64), .second, .val (.long ((z2.toInt64 + x2.toInt64) - x4.toInt64)), .second] [(.int v)])) (x := (0 : Int32)) (y := (if (2147483647 : Int64) < ((z2.toInt64 + x2.toInt64) - x4.toInt64) then (0 : Int32) else (1 : Int32))) (fun hc => ?_) (fun hc => ?_)) ?_
  · refine OG.trans (OG.ifYes C d3_79 (tltL hc).1 (by decide) (pc' := 95) (by decide)) ?_
    refine OG.trans (OG.iconst C d3_95 (z := (0 : Int32)) rfl (pc' := 96) rfl) ?_
    exact OG.refl
  · refine OG.trans (OG.ifNo C d3_79 (fltL hc).1 (pc' := 82) rfl) ?_
    refine OG.trans (OG.lload C d3_82 rfl (pc' := 84) rfl) ?_
    refine OG.trans (OG.ldcL C (w43 hw) d3_84 (pc' := 87) rfl) ?_
    refine OG.trans (OG.lcmp C d3_87 (pc' := 88) rfl) ?_
    refine OG.trans (OG.ite (α := Int32) (P := (2147483647 : Int64) < ((z2.toInt64 + x2.toInt64) - x4.toInt64)) (f := fun v => (mkF m 96 #[.val (.ref x0), .val (.long x1), .second, .val (.int x2), .val (.long x3), .second, .val (.int x4), .val (.int (1 : Int32)), .val (.long z2.toInt64), .second, .val (.long ((z2.toInt64 + x2.toInt64) - x4.toInt64)), .second] [(.int v)])) (x := (0 : Int32)) (y := (1 : Int32)) (fun hc => ?_) (fun hc => ?_)) ?_
    · refine OG.trans (OG.ifYes C d3_88 (tltL hc).2.2.1 (by decide) (pc' := 95) (by decide)) ?_
      refine OG.trans (OG.iconst C d3_95 (z := (0 : Int32)) rfl (pc' := 96) rfl) ?_
      exact OG.refl
    · refine OG.trans (OG.ifNo C d3_88 (fltL hc).2.2.1 (pc' := 91) rfl) ?_
      refine OG.trans (OG.iconst C d3_91 (z := (1 : Int32)) rfl (pc' := 92) rfl) ?_
      refine OG.trans (OG.goto C d3_92 (by decide) (pc' := 96) (by decide)) ?_
      exact OG.refl
    exact OG.refl
  refine OG.ow (OG.istore C d3_96 (ls' := #[.val (.ref x0), .val (.long x1), .second, .val (.int x2), .val (.long x3), .second, .val (.int x4), .val (.int (if ((z2.toInt64 + x2.toInt64) - x4.toInt64) < (-2147483648 : Int64) then (0 : Int32) else (if (2147483647 : Int64) < ((z2.toInt64 + x2.toInt64) - x4.toInt64) then (0 : Int32) else (1 : Int32)))), .val (.long z2.toInt64), .second, .val (.long ((z2.toInt64 + x2.toInt64) - x4.toInt64)), .second]) rfl (pc' := 98) rfl) ?_
  refine OG.ow (OG.aloadN C d3_98 rfl rfl (pc' := 99) rfl) ?_
  refine OG.ow (OG.lload C d3_99 rfl (pc' := 101) rfl) ?_
  refine OG.ow (OG.l2i C d3_101 (pc' := 102) rfl) ?_
  have G7 := (F1.keep Kh1 (ninS hxb nin0))
  have G8 := (E0.keep Kh1)
  refine OW.putF C (host := "") (Or.inl (w44 hw)) Via.refl G7 G8 (Or.inl (w45 hw)) (w4 hw) (ty := .int) (by decide) rfl rfl g0 d3_102 (pc' := 105) rfl ?_
  intro h9 Wh9
  have G10 := Fld.same Wh9 G7
  refine OG.ow (OG.iload C d3_105 rfl (pc' := 107) rfl) ?_
  refine OW.retN (t := .boolean) C (by simp) d3_107 (by decide) (by decide) ?_
  have G11 := (Fld.other Wh9 (F0.keep Kh1 (ninS hxb nin0)) (Or.inr (slot_ne (Or.inr (w14 hw)) (Or.inl (w45 hw)) (by decide) (t := (.array .long)) (t' := .int) (by decide) (by decide))))
  have G12 := (OA.other Ah1 Wh9 (Ne.symm hxb))
  exact ⟨_, _, rfl, (((Keep.refl h [x0, b]).trans Kh1 (allS (Or.inl (List.mem_of_getElem? (i := 1) rfl)) all0)).wr Wh9 (Or.inl (List.mem_of_getElem? (i := 0) rfl))), G11, G10, _, _, _, _, G12, rl3, rl4, rl5, rl6⟩
theorem d8_0 : decode prog_132_method_5_code 0 = .ok (.aload_n 0, 1) := by decide +kernel
theorem d8_1 : decode prog_132_method_5_code 1 = .ok (.getfield 9, 3) := by decide +kernel
theorem d8_4 : decode prog_132_method_5_code 4 = .ok (.iload_n 1, 1) := by decide +kernel
theorem d8_5 : decode prog_132_method_5_code 5 = .ok (.laload, 1) := by decide +kernel
theorem d8_6 : decode prog_132_method_5_code 6 = .ok (.lreturn, 1) := by decide +kernel
set_option maxRecDepth 65536 in
set_option maxHeartbeats 40000000 in
theorem bLb_0 {l : Launch} {Z : State} {a0 : Array Value} (hw : HW a0 Z) (x0 : Addr) {b : Addr} {l0 l1 l2 l3 : Int64} {n0 : Nat} {h : Heap} (Z0 : n0 ≤ h.size) (F0 : Fld Z h x0 "com/example/planwright/planwright/service/testing/PercentageQuotient" "limbs" "[J" (.ref b)) (A0 : OA Z h b .long [(.long l0), (.long l1), (.long l2), (.long l3)]) : OM l Z (⟨"com/example/planwright/planwright/service/testing/PercentageQuotient", "limb", "(I)J"⟩ : MethodName) prog_132_method_5_code 2 (some .long) ⟨0, 0, 0, 0⟩ n0 h #[(.ref x0), (.int (0 : Int32))] (fun v h' => v = some (.long l0) ∧ h' = h) 0 0 := by
  refine OM.of_body (ls := #[.val (.ref x0), .val (.int (0 : Int32))]) (plainFor_of_name pn_0) (fun m => by first | (simp [entryFrame, mkF, argsToLocals, Value.category]; done) | rfl) ?_
  intro p e s m below meth c C
  refine OG.ow (OG.aloadN C d8_0 rfl rfl (pc' := 1) rfl) ?_
  refine OG.ow (OG.getF C (host := "") (Or.inl (w13 hw)) Via.refl F0 d8_1 (pc' := 4) rfl) ?_
  refine OG.ow (OG.iloadN C d8_4 rfl (pc' := 5) rfl) ?_
  refine OG.ow (OG.laload C A0 (own_ib (n := 4) rfl (by decide)) rfl d8_5 (pc' := 6) rfl) ?_
  refine OW.retL C d8_6 (by decide) (by decide) ?_
  exact ⟨rfl, rfl⟩
set_option maxRecDepth 65536 in
set_option maxHeartbeats 40000000 in
theorem bLb_1 {l : Launch} {Z : State} {a0 : Array Value} (hw : HW a0 Z) (x0 : Addr) {b : Addr} {l0 l1 l2 l3 : Int64} {n0 : Nat} {h : Heap} (Z0 : n0 ≤ h.size) (F0 : Fld Z h x0 "com/example/planwright/planwright/service/testing/PercentageQuotient" "limbs" "[J" (.ref b)) (A0 : OA Z h b .long [(.long l0), (.long l1), (.long l2), (.long l3)]) : OM l Z (⟨"com/example/planwright/planwright/service/testing/PercentageQuotient", "limb", "(I)J"⟩ : MethodName) prog_132_method_5_code 2 (some .long) ⟨0, 0, 0, 0⟩ n0 h #[(.ref x0), (.int (1 : Int32))] (fun v h' => v = some (.long l1) ∧ h' = h) 0 0 := by
  refine OM.of_body (ls := #[.val (.ref x0), .val (.int (1 : Int32))]) (plainFor_of_name pn_0) (fun m => by first | (simp [entryFrame, mkF, argsToLocals, Value.category]; done) | rfl) ?_
  intro p e s m below meth c C
  refine OG.ow (OG.aloadN C d8_0 rfl rfl (pc' := 1) rfl) ?_
  refine OG.ow (OG.getF C (host := "") (Or.inl (w13 hw)) Via.refl F0 d8_1 (pc' := 4) rfl) ?_
  refine OG.ow (OG.iloadN C d8_4 rfl (pc' := 5) rfl) ?_
  refine OG.ow (OG.laload C A0 (own_ib (n := 4) rfl (by decide)) rfl d8_5 (pc' := 6) rfl) ?_
  refine OW.retL C d8_6 (by decide) (by decide) ?_
  exact ⟨rfl, rfl⟩
set_option maxRecDepth 65536 in
set_option maxHeartbeats 40000000 in
theorem bLb_2 {l : Launch} {Z : State} {a0 : Array Value} (hw : HW a0 Z) (x0 : Addr) {b : Addr} {l0 l1 l2 l3 : Int64} {n0 : Nat} {h : Heap} (Z0 : n0 ≤ h.size) (F0 : Fld Z h x0 "com/example/planwright/planwright/service/testing/PercentageQuotient" "limbs" "[J" (.ref b)) (A0 : OA Z h b .long [(.long l0), (.long l1), (.long l2), (.long l3)]) : OM l Z (⟨"com/example/planwright/planwright/service/testing/PercentageQuotient", "limb", "(I)J"⟩ : MethodName) prog_132_method_5_code 2 (some .long) ⟨0, 0, 0, 0⟩ n0 h #[(.ref x0), (.int (2 : Int32))] (fun v h' => v = some (.long l2) ∧ h' = h) 0 0 := by
  refine OM.of_body (ls := #[.val (.ref x0), .val (.int (2 : Int32))]) (plainFor_of_name pn_0) (fun m => by first | (simp [entryFrame, mkF, argsToLocals, Value.category]; done) | rfl) ?_
  intro p e s m below meth c C
  refine OG.ow (OG.aloadN C d8_0 rfl rfl (pc' := 1) rfl) ?_
  refine OG.ow (OG.getF C (host := "") (Or.inl (w13 hw)) Via.refl F0 d8_1 (pc' := 4) rfl) ?_
  refine OG.ow (OG.iloadN C d8_4 rfl (pc' := 5) rfl) ?_
  refine OG.ow (OG.laload C A0 (own_ib (n := 4) rfl (by decide)) rfl d8_5 (pc' := 6) rfl) ?_
  refine OW.retL C d8_6 (by decide) (by decide) ?_
  exact ⟨rfl, rfl⟩
set_option maxRecDepth 65536 in
set_option maxHeartbeats 40000000 in
theorem bLb_3 {l : Launch} {Z : State} {a0 : Array Value} (hw : HW a0 Z) (x0 : Addr) {b : Addr} {l0 l1 l2 l3 : Int64} {n0 : Nat} {h : Heap} (Z0 : n0 ≤ h.size) (F0 : Fld Z h x0 "com/example/planwright/planwright/service/testing/PercentageQuotient" "limbs" "[J" (.ref b)) (A0 : OA Z h b .long [(.long l0), (.long l1), (.long l2), (.long l3)]) : OM l Z (⟨"com/example/planwright/planwright/service/testing/PercentageQuotient", "limb", "(I)J"⟩ : MethodName) prog_132_method_5_code 2 (some .long) ⟨0, 0, 0, 0⟩ n0 h #[(.ref x0), (.int (3 : Int32))] (fun v h' => v = some (.long l3) ∧ h' = h) 0 0 := by
  refine OM.of_body (ls := #[.val (.ref x0), .val (.int (3 : Int32))]) (plainFor_of_name pn_0) (fun m => by first | (simp [entryFrame, mkF, argsToLocals, Value.category]; done) | rfl) ?_
  intro p e s m below meth c C
  refine OG.ow (OG.aloadN C d8_0 rfl rfl (pc' := 1) rfl) ?_
  refine OG.ow (OG.getF C (host := "") (Or.inl (w13 hw)) Via.refl F0 d8_1 (pc' := 4) rfl) ?_
  refine OG.ow (OG.iloadN C d8_4 rfl (pc' := 5) rfl) ?_
  refine OG.ow (OG.laload C A0 (own_ib (n := 4) rfl (by decide)) rfl d8_5 (pc' := 6) rfl) ?_
  refine OW.retL C d8_6 (by decide) (by decide) ?_
  exact ⟨rfl, rfl⟩
theorem d9_0 : decode prog_132_method_6_code 0 = .ok (.aload_n 0, 1) := by decide +kernel
theorem d9_1 : decode prog_132_method_6_code 1 = .ok (.getfield 45, 3) := by decide +kernel
theorem d9_4 : decode prog_132_method_6_code 4 = .ok (.ireturn, 1) := by decide +kernel
set_option maxRecDepth 65536 in
set_option maxHeartbeats 40000000 in
theorem b9 {l : Launch} {Z : State} {a0 : Array Value} (hw : HW a0 Z) (x0 : Addr) {sc : Int32} {n0 : Nat} {h : Heap} (Z0 : n0 ≤ h.size) (F1 : Fld Z h x0 "com/example/planwright/planwright/service/testing/PercentageQuotient" "scale" "I" (.int sc)) : OM l Z (⟨"com/example/planwright/planwright/service/testing/PercentageQuotient", "scale", "()I"⟩ : MethodName) prog_132_method_6_code 1 (some .int) ⟨0, 0, 0, 0⟩ n0 h #[(.ref x0)] (fun v h' => v = some (.int sc) ∧ h' = h) 0 0 := by
  refine OM.of_body (ls := #[.val (.ref x0)]) (plainFor_of_name pn_0) (fun m => by first | (simp [entryFrame, mkF, argsToLocals, Value.category]; done) | rfl) ?_
  intro p e s m below meth c C
  refine OG.ow (OG.aloadN C d9_0 rfl rfl (pc' := 1) rfl) ?_
  refine OG.ow (OG.getF C (host := "") (Or.inl (w44 hw)) Via.refl F1 d9_1 (pc' := 4) rfl) ?_
  refine OW.retI C d9_4 (by decide) (by decide) ?_
  exact ⟨rfl, rfl⟩
theorem d10_0 : decode prog_132_method_9_code 0 = .ok (.aload_n 0, 1) := by decide +kernel
theorem d10_1 : decode prog_132_method_9_code 1 = .ok (.getfield 9, 3) := by decide +kernel
theorem d10_4 : decode prog_132_method_9_code 4 = .ok (.iconst 3, 1) := by decide +kernel
theorem d10_5 : decode prog_132_method_9_code 5 = .ok (.laload, 1) := by decide +kernel
theorem d10_6 : decode prog_132_method_9_code 6 = .ok (.ldc2_w 58, 3) := by decide +kernel
theorem d10_9 : decode prog_132_method_9_code 9 = .ok (.lmul, 1) := by decide +kernel
theorem d10_10 : decode prog_132_method_9_code 10 = .ok (.aload_n 0, 1) := by decide +kernel
theorem d10_11 : decode prog_132_method_9_code 11 = .ok (.getfield 9, 3) := by decide +kernel
theorem d10_14 : decode prog_132_method_9_code 14 = .ok (.iconst 2, 1) := by decide +kernel
theorem d10_15 : decode prog_132_method_9_code 15 = .ok (.laload, 1) := by decide +kernel
theorem d10_16 : decode prog_132_method_9_code 16 = .ok (.ladd, 1) := by decide +kernel
theorem d10_17 : decode prog_132_method_9_code 17 = .ok (.lstore_n 2, 1) := by decide +kernel
theorem d10_18 : decode prog_132_method_9_code 18 = .ok (.aload_n 0, 1) := by decide +kernel
theorem d10_19 : decode prog_132_method_9_code 19 = .ok (.getfield 9, 3) := by decide +kernel
theorem d10_22 : decode prog_132_method_9_code 22 = .ok (.iconst 1, 1) := by decide +kernel
theorem d10_23 : decode prog_132_method_9_code 23 = .ok (.laload, 1) := by decide +kernel
theorem d10_24 : decode prog_132_method_9_code 24 = .ok (.ldc2_w 58, 3) := by decide +kernel
theorem d10_27 : decode prog_132_method_9_code 27 = .ok (.lmul, 1) := by decide +kernel
theorem d10_28 : decode prog_132_method_9_code 28 = .ok (.aload_n 0, 1) := by decide +kernel
theorem d10_29 : decode prog_132_method_9_code 29 = .ok (.getfield 9, 3) := by decide +kernel
theorem d10_32 : decode prog_132_method_9_code 32 = .ok (.iconst 0, 1) := by decide +kernel
theorem d10_33 : decode prog_132_method_9_code 33 = .ok (.laload, 1) := by decide +kernel
theorem d10_34 : decode prog_132_method_9_code 34 = .ok (.ladd, 1) := by decide +kernel
theorem d10_35 : decode prog_132_method_9_code 35 = .ok (.lstore 4, 2) := by decide +kernel
theorem d10_37 : decode prog_132_method_9_code 37 = .ok (.aload_n 0, 1) := by decide +kernel
theorem d10_38 : decode prog_132_method_9_code 38 = .ok (.getfield 45, 3) := by decide +kernel
theorem d10_41 : decode prog_132_method_9_code 41 = .ok (.i2l, 1) := by decide +kernel
theorem d10_42 : decode prog_132_method_9_code 42 = .ok (.iload_n 1, 1) := by decide +kernel
theorem d10_43 : decode prog_132_method_9_code 43 = .ok (.i2l, 1) := by decide +kernel
theorem d10_44 : decode prog_132_method_9_code 44 = .ok (.lsub, 1) := by decide +kernel
theorem d10_45 : decode prog_132_method_9_code 45 = .ok (.lstore 6, 2) := by decide +kernel
theorem d10_47 : decode prog_132_method_9_code 47 = .ok (.lload 6, 2) := by decide +kernel
theorem d10_49 : decode prog_132_method_9_code 49 = .ok (.ldc2_w 96, 3) := by decide +kernel
theorem d10_52 : decode prog_132_method_9_code 52 = .ok (.lcmp, 1) := by decide +kernel
theorem d10_53 : decode prog_132_method_9_code 53 = .ok (.ifCond .lt 9, 3) := by decide +kernel
theorem d10_56 : decode prog_132_method_9_code 56 = .ok (.lconst 0, 1) := by decide +kernel
theorem d10_57 : decode prog_132_method_9_code 57 = .ok (.lstore 8, 2) := by decide +kernel
theorem d10_59 : decode prog_132_method_9_code 59 = .ok (.goto 167, 3) := by decide +kernel
theorem d10_62 : decode prog_132_method_9_code 62 = .ok (.lload 6, 2) := by decide +kernel
theorem d10_64 : decode prog_132_method_9_code 64 = .ok (.ldc2_w 98, 3) := by decide +kernel
theorem d10_67 : decode prog_132_method_9_code 67 = .ok (.lcmp, 1) := by decide +kernel
theorem d10_68 : decode prog_132_method_9_code 68 = .ok (.ifCond .lt 20, 3) := by decide +kernel
theorem d10_71 : decode prog_132_method_9_code 71 = .ok (.lload_n 2, 1) := by decide +kernel
theorem d10_72 : decode prog_132_method_9_code 72 = .ok (.getstatic 30, 3) := by decide +kernel
theorem d10_75 : decode prog_132_method_9_code 75 = .ok (.lload 6, 2) := by decide +kernel
theorem d10_77 : decode prog_132_method_9_code 77 = .ok (.l2i, 1) := by decide +kernel
theorem d10_78 : decode prog_132_method_9_code 78 = .ok (.bipush 18, 2) := by decide +kernel
theorem d10_80 : decode prog_132_method_9_code 80 = .ok (.isub, 1) := by decide +kernel
theorem d10_81 : decode prog_132_method_9_code 81 = .ok (.laload, 1) := by decide +kernel
theorem d10_82 : decode prog_132_method_9_code 82 = .ok (.ldiv, 1) := by decide +kernel
theorem d10_83 : decode prog_132_method_9_code 83 = .ok (.lstore 8, 2) := by decide +kernel
theorem d10_85 : decode prog_132_method_9_code 85 = .ok (.goto 141, 3) := by decide +kernel
theorem d10_88 : decode prog_132_method_9_code 88 = .ok (.lload 6, 2) := by decide +kernel
theorem d10_90 : decode prog_132_method_9_code 90 = .ok (.lconst 0, 1) := by decide +kernel
theorem d10_91 : decode prog_132_method_9_code 91 = .ok (.lcmp, 1) := by decide +kernel
theorem d10_92 : decode prog_132_method_9_code 92 = .ok (.ifCond .lt 59, 3) := by decide +kernel
theorem d10_95 : decode prog_132_method_9_code 95 = .ok (.getstatic 30, 3) := by decide +kernel
theorem d10_98 : decode prog_132_method_9_code 98 = .ok (.bipush 18, 2) := by decide +kernel
theorem d10_100 : decode prog_132_method_9_code 100 = .ok (.lload 6, 2) := by decide +kernel
theorem d10_102 : decode prog_132_method_9_code 102 = .ok (.l2i, 1) := by decide +kernel
theorem d10_103 : decode prog_132_method_9_code 103 = .ok (.isub, 1) := by decide +kernel
theorem d10_104 : decode prog_132_method_9_code 104 = .ok (.laload, 1) := by decide +kernel
theorem d10_105 : decode prog_132_method_9_code 105 = .ok (.lstore 10, 2) := by decide +kernel
theorem d10_107 : decode prog_132_method_9_code 107 = .ok (.lload 4, 2) := by decide +kernel
theorem d10_109 : decode prog_132_method_9_code 109 = .ok (.getstatic 30, 3) := by decide +kernel
theorem d10_112 : decode prog_132_method_9_code 112 = .ok (.lload 6, 2) := by decide +kernel
theorem d10_114 : decode prog_132_method_9_code 114 = .ok (.l2i, 1) := by decide +kernel
theorem d10_115 : decode prog_132_method_9_code 115 = .ok (.laload, 1) := by decide +kernel
theorem d10_116 : decode prog_132_method_9_code 116 = .ok (.ldiv, 1) := by decide +kernel
theorem d10_117 : decode prog_132_method_9_code 117 = .ok (.lstore 12, 2) := by decide +kernel
theorem d10_119 : decode prog_132_method_9_code 119 = .ok (.lload_n 2, 1) := by decide +kernel
theorem d10_120 : decode prog_132_method_9_code 120 = .ok (.ldc2_w 100, 3) := by decide +kernel
theorem d10_123 : decode prog_132_method_9_code 123 = .ok (.lload 12, 2) := by decide +kernel
theorem d10_125 : decode prog_132_method_9_code 125 = .ok (.lsub, 1) := by decide +kernel
theorem d10_126 : decode prog_132_method_9_code 126 = .ok (.lload 10, 2) := by decide +kernel
theorem d10_128 : decode prog_132_method_9_code 128 = .ok (.ldiv, 1) := by decide +kernel
theorem d10_129 : decode prog_132_method_9_code 129 = .ok (.lcmp, 1) := by decide +kernel
theorem d10_130 : decode prog_132_method_9_code 130 = .ok (.ifCond .le 9, 3) := by decide +kernel
theorem d10_133 : decode prog_132_method_9_code 133 = .ok (.ldc2_w 100, 3) := by decide +kernel
theorem d10_136 : decode prog_132_method_9_code 136 = .ok (.goto 10, 3) := by decide +kernel
theorem d10_139 : decode prog_132_method_9_code 139 = .ok (.lload_n 2, 1) := by decide +kernel
theorem d10_140 : decode prog_132_method_9_code 140 = .ok (.lload 10, 2) := by decide +kernel
theorem d10_142 : decode prog_132_method_9_code 142 = .ok (.lmul, 1) := by decide +kernel
theorem d10_143 : decode prog_132_method_9_code 143 = .ok (.lload 12, 2) := by decide +kernel
theorem d10_145 : decode prog_132_method_9_code 145 = .ok (.ladd, 1) := by decide +kernel
theorem d10_146 : decode prog_132_method_9_code 146 = .ok (.lstore 8, 2) := by decide +kernel
theorem d10_148 : decode prog_132_method_9_code 148 = .ok (.goto 78, 3) := by decide +kernel
theorem d10_151 : decode prog_132_method_9_code 151 = .ok (.lload_n 2, 1) := by decide +kernel
theorem d10_152 : decode prog_132_method_9_code 152 = .ok (.lconst 0, 1) := by decide +kernel
theorem d10_153 : decode prog_132_method_9_code 153 = .ok (.lcmp, 1) := by decide +kernel
theorem d10_154 : decode prog_132_method_9_code 154 = .ok (.ifCond .gt 12, 3) := by decide +kernel
theorem d10_157 : decode prog_132_method_9_code 157 = .ok (.lload 6, 2) := by decide +kernel
theorem d10_159 : decode prog_132_method_9_code 159 = .ok (.ldc2_w 102, 3) := by decide +kernel
theorem d10_162 : decode prog_132_method_9_code 162 = .ok (.lcmp, 1) := by decide +kernel
theorem d10_163 : decode prog_132_method_9_code 163 = .ok (.ifCond .ge 28, 3) := by decide +kernel
theorem d10_166 : decode prog_132_method_9_code 166 = .ok (.lload 4, 2) := by decide +kernel
theorem d10_168 : decode prog_132_method_9_code 168 = .ok (.lconst 0, 1) := by decide +kernel
theorem d10_169 : decode prog_132_method_9_code 169 = .ok (.lcmp, 1) := by decide +kernel
theorem d10_170 : decode prog_132_method_9_code 170 = .ok (.ifCond .ne 13, 3) := by decide +kernel
theorem d10_173 : decode prog_132_method_9_code 173 = .ok (.lload_n 2, 1) := by decide +kernel
theorem d10_174 : decode prog_132_method_9_code 174 = .ok (.lconst 0, 1) := by decide +kernel
theorem d10_175 : decode prog_132_method_9_code 175 = .ok (.lcmp, 1) := by decide +kernel
theorem d10_176 : decode prog_132_method_9_code 176 = .ok (.ifCond .ne 7, 3) := by decide +kernel
theorem d10_179 : decode prog_132_method_9_code 179 = .ok (.lconst 0, 1) := by decide +kernel
theorem d10_180 : decode prog_132_method_9_code 180 = .ok (.goto 6, 3) := by decide +kernel
theorem d10_183 : decode prog_132_method_9_code 183 = .ok (.ldc2_w 100, 3) := by decide +kernel
theorem d10_186 : decode prog_132_method_9_code 186 = .ok (.lstore 8, 2) := by decide +kernel
theorem d10_188 : decode prog_132_method_9_code 188 = .ok (.goto 38, 3) := by decide +kernel
theorem d10_191 : decode prog_132_method_9_code 191 = .ok (.getstatic 30, 3) := by decide +kernel
theorem d10_194 : decode prog_132_method_9_code 194 = .ok (.lload 6, 2) := by decide +kernel
theorem d10_196 : decode prog_132_method_9_code 196 = .ok (.lneg, 1) := by decide +kernel
theorem d10_197 : decode prog_132_method_9_code 197 = .ok (.l2i, 1) := by decide +kernel
theorem d10_198 : decode prog_132_method_9_code 198 = .ok (.laload, 1) := by decide +kernel
theorem d10_199 : decode prog_132_method_9_code 199 = .ok (.lstore 10, 2) := by decide +kernel
theorem d10_201 : decode prog_132_method_9_code 201 = .ok (.lload 4, 2) := by decide +kernel
theorem d10_203 : decode prog_132_method_9_code 203 = .ok (.ldc2_w 100, 3) := by decide +kernel
theorem d10_206 : decode prog_132_method_9_code 206 = .ok (.lload 10, 2) := by decide +kernel
theorem d10_208 : decode prog_132_method_9_code 208 = .ok (.ldiv, 1) := by decide +kernel
theorem d10_209 : decode prog_132_method_9_code 209 = .ok (.lcmp, 1) := by decide +kernel
theorem d10_210 : decode prog_132_method_9_code 210 = .ok (.ifCond .le 9, 3) := by decide +kernel
theorem d10_213 : decode prog_132_method_9_code 213 = .ok (.ldc2_w 100, 3) := by decide +kernel
theorem d10_216 : decode prog_132_method_9_code 216 = .ok (.goto 8, 3) := by decide +kernel
theorem d10_219 : decode prog_132_method_9_code 219 = .ok (.lload 4, 2) := by decide +kernel
theorem d10_221 : decode prog_132_method_9_code 221 = .ok (.lload 10, 2) := by decide +kernel
theorem d10_223 : decode prog_132_method_9_code 223 = .ok (.lmul, 1) := by decide +kernel
theorem d10_224 : decode prog_132_method_9_code 224 = .ok (.lstore 8, 2) := by decide +kernel
theorem d10_226 : decode prog_132_method_9_code 226 = .ok (.lload 8, 2) := by decide +kernel
theorem d10_228 : decode prog_132_method_9_code 228 = .ok (.lreturn, 1) := by decide +kernel
set_option maxRecDepth 65536 in
set_option maxHeartbeats 40000000 in
theorem b10 {l : Launch} {Z : State} {a0 : Array Value} (hw : HW a0 Z) (x0 : Addr) (x1 : Int32) {b pw : Addr} {l0 l1 l2 l3 : Int64} {sc : Int32} {n0 : Nat} {h : Heap} (Z0 : n0 ≤ h.size) (F0 : Fld Z h x0 "com/example/planwright/planwright/service/testing/PercentageQuotient" "limbs" "[J" (.ref b)) (A0 : OA Z h b .long [(.long l0), (.long l1), (.long l2), (.long l3)]) (F1 : Fld Z h x0 "com/example/planwright/planwright/service/testing/PercentageQuotient" "scale" "I" (.int sc)) (S_pw : Sta Z h "com/example/planwright/planwright/service/testing/PercentageQuotient" "POWERS_OF_TEN" "[J" (.ref pw)) (A_pw : OA Z h pw .long PWL) (r0 : R9 l0) (r1 : R9 l1) (r2 : R9 l2) (r3 : R9 l3) : OM l Z (⟨"com/example/planwright/planwright/service/testing/PercentageQuotient", "key", "(I)J"⟩ : MethodName) prog_132_method_9_code 14 (some .long) ⟨0, 0, 0, 0⟩ n0 h #[(.ref x0), (.int x1)] (fun v h' => ∃ z : Int64, v = some (.long z) ∧ h = h' ∧ z.toInt = ((SP (VV l0 l1 l2 l3) (x1.toInt - sc.toInt) : Nat) : Int)) 0 0 := by
  refine OM.of_body (ls := #[.val (.ref x0), .val (.int x1), .unset, .unset, .unset, .unset, .unset, .unset, .unset, .unset, .unset, .unset, .unset, .unset]) (plainFor_of_name pn_0) (fun m => by first | (simp [entryFrame, mkF, argsToLocals, Value.category]; done) | rfl) ?_
  intro p e s m below meth c C
  refine OG.ow (OG.aloadN C d10_0 rfl rfl (pc' := 1) rfl) ?_
  refine OG.ow (OG.getF C (host := "") (Or.inl (w13 hw)) Via.refl F0 d10_1 (pc' := 4) rfl) ?_
  refine OG.ow (OG.iconst C d10_4 (z := (3 : Int32)) rfl (pc' := 5) rfl) ?_
  refine OG.ow (OG.laload C A0 (own_ib (n := 4) rfl (by decide)) rfl d10_5 (pc' := 6) rfl) ?_
  refine OG.ow (OG.ldcL C (w27 hw) d10_6 (pc' := 9) rfl) ?_
  refine OG.ow (OG.lmul C d10_9 (pc' := 10) rfl) ?_
  refine OG.ow (OG.aloadN C d10_10 rfl rfl (pc' := 11) rfl) ?_
  refine OG.ow (OG.getF C (host := "") (Or.inl (w13 hw)) Via.refl F0 d10_11 (pc' := 14) rfl) ?_
  refine OG.ow (OG.iconst C d10_14 (z := (2 : Int32)) rfl (pc' := 15) rfl) ?_
  refine OG.ow (OG.laload C A0 (own_ib (n := 4) rfl (by decide)) rfl d10_15 (pc' := 16) rfl) ?_
  refine OG.ow (OG.ladd C d10_16 (pc' := 17) rfl) ?_
  refine OG.ow (OG.lstoreN C d10_17 (ls' := #[.val (.ref x0), .val (.int x1), .val (.long ((l3 * (1000000000 : Int64)) + l2)), .second, .unset, .unset, .unset, .unset, .unset, .unset, .unset, .unset, .unset, .unset]) rfl (pc' := 18) rfl) ?_
  refine OG.ow (OG.aloadN C d10_18 rfl rfl (pc' := 19) rfl) ?_
  refine OG.ow (OG.getF C (host := "") (Or.inl (w13 hw)) Via.refl F0 d10_19 (pc' := 22) rfl) ?_
  refine OG.ow (OG.iconst C d10_22 (z := (1 : Int32)) rfl (pc' := 23) rfl) ?_
  refine OG.ow (OG.laload C A0 (own_ib (n := 4) rfl (by decide)) rfl d10_23 (pc' := 24) rfl) ?_
  refine OG.ow (OG.ldcL C (w27 hw) d10_24 (pc' := 27) rfl) ?_
  refine OG.ow (OG.lmul C d10_27 (pc' := 28) rfl) ?_
  refine OG.ow (OG.aloadN C d10_28 rfl rfl (pc' := 29) rfl) ?_
  refine OG.ow (OG.getF C (host := "") (Or.inl (w13 hw)) Via.refl F0 d10_29 (pc' := 32) rfl) ?_
  refine OG.ow (OG.iconst C d10_32 (z := (0 : Int32)) rfl (pc' := 33) rfl) ?_
  refine OG.ow (OG.laload C A0 (own_ib (n := 4) rfl (by decide)) rfl d10_33 (pc' := 34) rfl) ?_
  refine OG.ow (OG.ladd C d10_34 (pc' := 35) rfl) ?_
  refine OG.ow (OG.lstore C d10_35 (ls' := #[.val (.ref x0), .val (.int x1), .val (.long ((l3 * (1000000000 : Int64)) + l2)), .second, .val (.long ((l1 * (1000000000 : Int64)) + l0)), .second, .unset, .unset, .unset, .unset, .unset, .unset, .unset, .unset]) rfl (pc' := 37) rfl) ?_
  refine OG.ow (OG.aloadN C d10_37 rfl rfl (pc' := 38) rfl) ?_
  refine OG.ow (OG.getF C (host := "") (Or.inl (w44 hw)) Via.refl F1 d10_38 (pc' := 41) rfl) ?_
  refine OG.ow (OG.i2l C d10_41 (pc' := 42) rfl) ?_
  refine OG.ow (OG.iloadN C d10_42 rfl (pc' := 43) rfl) ?_
  refine OG.ow (OG.i2l C d10_43 (pc' := 44) rfl) ?_
  refine OG.ow (OG.lsub C d10_44 (pc' := 45) rfl) ?_
  refine OG.ow (OG.lstore C d10_45 (ls' := #[.val (.ref x0), .val (.int x1), .val (.long ((l3 * (1000000000 : Int64)) + l2)), .second, .val (.long ((l1 * (1000000000 : Int64)) + l0)), .second, .val (.long (sc.toInt64 - x1.toInt64)), .second, .unset, .unset, .unset, .unset, .unset, .unset]) rfl (pc' := 47) rfl) ?_
  generalize gh : ((l3 * (1000000000 : Int64)) + l2) = hi
  generalize gl : ((l1 * (1000000000 : Int64)) + l0) = lo
  generalize gs : (sc.toInt64 - x1.toInt64) = sh
  obtain ⟨HH, LO, k1, k2, k3, k4, k5, k6⟩ := own_key r0 r1 r2 r3 gh gl gs
  refine OG.ow (OG.lload C d10_47 rfl (pc' := 49) rfl) ?_
  refine OG.ow (OG.ldcL C (w61 hw) d10_49 (pc' := 52) rfl) ?_
  refine OG.ow (OG.lcmp C d10_52 (pc' := 53) rfl) ?_
  by_cases hc1 : sh < (37 : Int64)
  · refine OG.ow (OG.ifYes C d10_53 (tltL hc1).1 (by decide) (pc' := 62) (by decide)) ?_
    refine OG.ow (OG.lload C d10_62 rfl (pc' := 64) rfl) ?_
    refine OG.ow (OG.ldcL C (w67 hw) d10_64 (pc' := 67) rfl) ?_
    refine OG.ow (OG.lcmp C d10_67 (pc' := 68) rfl) ?_
    by_cases hc2 : sh < (18 : Int64)
    · refine OG.ow (OG.ifYes C d10_68 (tltL hc2).1 (by decide) (pc' := 88) (by decide)) ?_
      refine OG.ow (OG.lload C d10_88 rfl (pc' := 90) rfl) ?_
      refine OG.ow (OG.lconst C d10_90 (z := (0 : Int64)) rfl (pc' := 91) rfl) ?_
      refine OG.ow (OG.lcmp C d10_91 (pc' := 92) rfl) ?_
      by_cases hc3 : sh < (0 : Int64)
      · refine OG.ow (OG.ifYes C d10_92 (tltL hc3).1 (by decide) (pc' := 151) (by decide)) ?_
        refine OG.ow (OG.lloadN C d10_151 rfl (pc' := 152) rfl) ?_
        refine OG.ow (OG.lconst C d10_152 (z := (0 : Int64)) rfl (pc' := 153) rfl) ?_
        refine OG.ow (OG.lcmp C d10_153 (pc' := 154) rfl) ?_
        by_cases hc4 : (0 : Int64) < hi
        · refine OG.ow (OG.ifYes C d10_154 (tltL hc4).2.2.1 (by decide) (pc' := 166) (by decide)) ?_
          refine OG.ow (OG.lload C d10_166 rfl (pc' := 168) rfl) ?_
          refine OG.ow (OG.lconst C d10_168 (z := (0 : Int64)) rfl (pc' := 169) rfl) ?_
          refine OG.ow (OG.lcmp C d10_169 (pc' := 170) rfl) ?_
          by_cases hc5 : lo = (0 : Int64)
          · refine OG.ow (OG.ifNo C d10_170 (teqL hc5).2 (pc' := 173) rfl) ?_
            refine OG.ow (OG.lloadN C d10_173 rfl (pc' := 174) rfl) ?_
            refine OG.ow (OG.lconst C d10_174 (z := (0 : Int64)) rfl (pc' := 175) rfl) ?_
            refine OG.ow (OG.lcmp C d10_175 (pc' := 176) rfl) ?_
            by_cases hc6 : hi = (0 : Int64)
            · refine OG.ow (OG.ifNo C d10_176 (teqL hc6).2 (pc' := 179) rfl) ?_
              refine OG.ow (OG.lconst C d10_179 (z := (0 : Int64)) rfl (pc' := 180) rfl) ?_
              refine OG.ow (OG.goto C d10_180 (by decide) (pc' := 186) (by decide)) ?_
              refine OG.ow (OG.lstore C d10_186 (ls' := #[.val (.ref x0), .val (.int x1), .val (.long hi), .second, .val (.long lo), .second, .val (.long sh), .second, .val (.long (0 : Int64)), .second, .unset, .unset, .unset, .unset]) rfl (pc' := 188) rfl) ?_
              refine OG.ow (OG.goto C d10_188 (by decide) (pc' := 226) (by decide)) ?_
              refine OG.ow (OG.lload C d10_226 rfl (pc' := 228) rfl) ?_
              refine OW.retL C d10_228 (by decide) (by decide) ?_
              refine ⟨_, rfl, rfl, ?_⟩
              rw [k5]
              exact key_d11 k1 k2 k6 hc3 (Or.inl hc4) hc5 hc6
            · refine OG.ow (OG.ifYes C d10_176 (feqL hc6).2 (by decide) (pc' := 183) (by decide)) ?_
              refine OG.ow (OG.ldcL C (w68 hw) d10_183 (pc' := 186) rfl) ?_
              refine OG.ow (OG.lstore C d10_186 (ls' := #[.val (.ref x0), .val (.int x1), .val (.long hi), .second, .val (.long lo), .second, .val (.long sh), .second, .val (.long (9223372036854775807 : Int64)), .second, .unset, .unset, .unset, .unset]) rfl (pc' := 188) rfl) ?_
              refine OG.ow (OG.goto C d10_188 (by decide) (pc' := 226) (by decide)) ?_
              refine OG.ow (OG.lload C d10_226 rfl (pc' := 228) rfl) ?_
              refine OW.retL C d10_228 (by decide) (by decide) ?_
              refine ⟨_, rfl, rfl, ?_⟩
              rw [k5]
              exact key_d10 k1 k2 k6 hc3 (Or.inl hc4) hc5 hc6
          · refine OG.ow (OG.ifYes C d10_170 (feqL hc5).2 (by decide) (pc' := 183) (by decide)) ?_
            refine OG.ow (OG.ldcL C (w68 hw) d10_183 (pc' := 186) rfl) ?_
            refine OG.ow (OG.lstore C d10_186 (ls' := #[.val (.ref x0), .val (.int x1), .val (.long hi), .second, .val (.long lo), .second, .val (.long sh), .second, .val (.long (9223372036854775807 : Int64)), .second, .unset, .unset, .unset, .unset]) rfl (pc' := 188) rfl) ?_
            refine OG.ow (OG.goto C d10_188 (by decide) (pc' := 226) (by decide)) ?_
            refine OG.ow (OG.lload C d10_226 rfl (pc' := 228) rfl) ?_
            refine OW.retL C d10_228 (by decide) (by decide) ?_
            refine ⟨_, rfl, rfl, ?_⟩
            rw [k5]
            exact key_d0 k1 k2 k6 hc3 (Or.inl hc4) hc5
        · refine OG.ow (OG.ifNo C d10_154 (fltL hc4).2.2.1 (pc' := 157) rfl) ?_
          refine OG.ow (OG.lload C d10_157 rfl (pc' := 159) rfl) ?_
          refine OG.ow (OG.ldcL C (w93 hw) d10_159 (pc' := 162) rfl) ?_
          refine OG.ow (OG.lcmp C d10_162 (pc' := 163) rfl) ?_
          by_cases hc7 : sh < (-18 : Int64)
          · refine OG.ow (OG.ifNo C d10_163 (tltL hc7).2.1 (pc' := 166) rfl) ?_
            refine OG.ow (OG.lload C d10_166 rfl (pc' := 168) rfl) ?_
            refine OG.ow (OG.lconst C d10_168 (z := (0 : Int64)) rfl (pc' := 169) rfl) ?_
            refine OG.ow (OG.lcmp C d10_169 (pc' := 170) rfl) ?_
            by_cases hc8 : lo = (0 : Int64)
            · refine OG.ow (OG.ifNo C d10_170 (teqL hc8).2 (pc' := 173) rfl) ?_
              refine OG.ow (OG.lloadN C d10_173 rfl (pc' := 174) rfl) ?_
              refine OG.ow (OG.lconst C d10_174 (z := (0 : Int64)) rfl (pc' := 175) rfl) ?_
              refine OG.ow (OG.lcmp C d10_175 (pc' := 176) rfl) ?_
              by_cases hc9 : hi = (0 : Int64)
              · refine OG.ow (OG.ifNo C d10_176 (teqL hc9).2 (pc' := 179) rfl) ?_
                refine OG.ow (OG.lconst C d10_179 (z := (0 : Int64)) rfl (pc' := 180) rfl) ?_
                refine OG.ow (OG.goto C d10_180 (by decide) (pc' := 186) (by decide)) ?_
                refine OG.ow (OG.lstore C d10_186 (ls' := #[.val (.ref x0), .val (.int x1), .val (.long hi), .second, .val (.long lo), .second, .val (.long sh), .second, .val (.long (0 : Int64)), .second, .unset, .unset, .unset, .unset]) rfl (pc' := 188) rfl) ?_
                refine OG.ow (OG.goto C d10_188 (by decide) (pc' := 226) (by decide)) ?_
                refine OG.ow (OG.lload C d10_226 rfl (pc' := 228) rfl) ?_
                refine OW.retL C d10_228 (by decide) (by decide) ?_
                refine ⟨_, rfl, rfl, ?_⟩
                rw [k5]
                exact key_d11 k1 k2 k6 hc3 (Or.inr hc7) hc8 hc9
              · refine OG.ow (OG.ifYes C d10_176 (feqL hc9).2 (by decide) (pc' := 183) (by decide)) ?_
                refine OG.ow (OG.ldcL C (w68 hw) d10_183 (pc' := 186) rfl) ?_
                refine OG.ow (OG.lstore C d10_186 (ls' := #[.val (.ref x0), .val (.int x1), .val (.long hi), .second, .val (.long lo), .second, .val (.long sh), .second, .val (.long (9223372036854775807 : Int64)), .second, .unset, .unset, .unset, .unset]) rfl (pc' := 188) rfl) ?_
                refine OG.ow (OG.goto C d10_188 (by decide) (pc' := 226) (by decide)) ?_
                refine OG.ow (OG.lload C d10_226 rfl (pc' := 228) rfl) ?_
                refine OW.retL C d10_228 (by decide) (by decide) ?_
                refine ⟨_, rfl, rfl, ?_⟩
                rw [k5]
                exact key_d10 k1 k2 k6 hc3 (Or.inr hc7) hc8 hc9
            · refine OG.ow (OG.ifYes C d10_170 (feqL hc8).2 (by decide) (pc' := 183) (by decide)) ?_
              refine OG.ow (OG.ldcL C (w68 hw) d10_183 (pc' := 186) rfl) ?_
              refine OG.ow (OG.lstore C d10_186 (ls' := #[.val (.ref x0), .val (.int x1), .val (.long hi), .second, .val (.long lo), .second, .val (.long sh), .second, .val (.long (9223372036854775807 : Int64)), .second, .unset, .unset, .unset, .unset]) rfl (pc' := 188) rfl) ?_
              refine OG.ow (OG.goto C d10_188 (by decide) (pc' := 226) (by decide)) ?_
              refine OG.ow (OG.lload C d10_226 rfl (pc' := 228) rfl) ?_
              refine OW.retL C d10_228 (by decide) (by decide) ?_
              refine ⟨_, rfl, rfl, ?_⟩
              rw [k5]
              exact key_d0 k1 k2 k6 hc3 (Or.inr hc7) hc8
          · refine OG.ow (OG.ifYes C d10_163 (fltL hc7).2.1 (by decide) (pc' := 191) (by decide)) ?_
            refine OG.ow (OG.getS C (host := "") (Or.inl (w20 hw)) Via.refl S_pw d10_191 (pc' := 194) rfl) ?_
            refine OG.ow (OG.lload C d10_194 rfl (pc' := 196) rfl) ?_
            refine OG.ow (OG.lneg C d10_196 (pc' := 197) rfl) ?_
            refine OG.ow (OG.l2i C d10_197 (pc' := 198) rfl) ?_
            have ixE := own_ixE k6 hc1 hc2 hc3 hc4 hc7
            obtain ⟨pE, pEa, pEb⟩ := own_pwl (-sh).toInt32 (by omega)
            refine OG.ow (OG.laload C A_pw (own_ib (n := 19) rfl (by omega)) pEa d10_198 (pc' := 199) rfl) ?_
            refine OG.ow (OG.lstore C d10_199 (ls' := #[.val (.ref x0), .val (.int x1), .val (.long hi), .second, .val (.long lo), .second, .val (.long sh), .second, .unset, .unset, .val (.long pE), .second, .unset, .unset]) rfl (pc' := 201) rfl) ?_
            refine OG.ow (OG.lload C d10_201 rfl (pc' := 203) rfl) ?_
            refine OG.ow (OG.ldcL C (w68 hw) d10_203 (pc' := 206) rfl) ?_
            refine OG.ow (OG.lload C d10_206 rfl (pc' := 208) rfl) ?_
            refine OG.ow (OG.ldiv C d10_208 (own_nz pEb) (pc' := 209) rfl) ?_
            refine OG.ow (OG.lcmp C d10_209 (pc' := 210) rfl) ?_
            by_cases hc10 : ((9223372036854775807 : Int64) / pE) < lo
            · refine OG.ow (OG.ifNo C d10_210 (tltL hc10).2.2.2 (pc' := 213) rfl) ?_
              refine OG.ow (OG.ldcL C (w68 hw) d10_213 (pc' := 216) rfl) ?_
              refine OG.ow (OG.goto C d10_216 (by decide) (pc' := 224) (by decide)) ?_
              refine OG.ow (OG.lstore C d10_224 (ls' := #[.val (.ref x0), .val (.int x1), .val (.long hi), .second, .val (.long lo), .second, .val (.long sh), .second, .val (.long (9223372036854775807 : Int64)), .second, .val (.long pE), .second, .unset, .unset]) rfl (pc' := 226) rfl) ?_
              refine OG.ow (OG.lload C d10_226 rfl (pc' := 228) rfl) ?_
              refine OW.retL C d10_228 (by decide) (by decide) ?_
              refine ⟨_, rfl, rfl, ?_⟩
              rw [k5]
              exact key_e1 k1 k2 k3 k4 k6 hc3 hc4 hc7 ixE pEb hc10
            · refine OG.ow (OG.ifYes C d10_210 (fltL hc10).2.2.2 (by decide) (pc' := 219) (by decide)) ?_
              refine OG.ow (OG.lload C d10_219 rfl (pc' := 221) rfl) ?_
              refine OG.ow (OG.lload C d10_221 rfl (pc' := 223) rfl) ?_
              refine OG.ow (OG.lmul C d10_223 (pc' := 224) rfl) ?_
              refine OG.ow (OG.lstore C d10_224 (ls' := #[.val (.ref x0), .val (.int x1), .val (.long hi), .second, .val (.long lo), .second, .val (.long sh), .second, .val (.long (lo * pE)), .second, .val (.long pE), .second, .unset, .unset]) rfl (pc' := 226) rfl) ?_
              refine OG.ow (OG.lload C d10_226 rfl (pc' := 228) rfl) ?_
              refine OW.retL C d10_228 (by decide) (by decide) ?_
              refine ⟨_, rfl, rfl, ?_⟩
              rw [k5]
              exact key_e0 k1 k2 k3 k4 k6 hc3 hc4 hc7 ixE pEb hc10
      · refine OG.ow (OG.ifNo C d10_92 (fltL hc3).1 (pc' := 95) rfl) ?_
        refine OG.ow (OG.getS C (host := "") (Or.inl (w20 hw)) Via.refl S_pw d10_95 (pc' := 98) rfl) ?_
        refine OG.ow (OG.bipush C d10_98 (z := (18 : Int32)) (by decide) (pc' := 100) rfl) ?_
        refine OG.ow (OG.lload C d10_100 rfl (pc' := 102) rfl) ?_
        refine OG.ow (OG.l2i C d10_102 (pc' := 103) rfl) ?_
        refine OG.ow (OG.isub C d10_103 (pc' := 104) rfl) ?_
        have ixC := own_ixC k6 hc1 hc2 hc3
        obtain ⟨pC, pCa, pCb⟩ := own_pwl ((18 : Int32) - sh.toInt32) (by omega)
        refine OG.ow (OG.laload C A_pw (own_ib (n := 19) rfl (by omega)) pCa d10_104 (pc' := 105) rfl) ?_
        refine OG.ow (OG.lstore C d10_105 (ls' := #[.val (.ref x0), .val (.int x1), .val (.long hi), .second, .val (.long lo), .second, .val (.long sh), .second, .unset, .unset, .val (.long pC), .second, .unset, .unset]) rfl (pc' := 107) rfl) ?_
        refine OG.ow (OG.lload C d10_107 rfl (pc' := 109) rfl) ?_
        refine OG.ow (OG.getS C (host := "") (Or.inl (w20 hw)) Via.refl S_pw d10_109 (pc' := 112) rfl) ?_
        refine OG.ow (OG.lload C d10_112 rfl (pc' := 114) rfl) ?_
        refine OG.ow (OG.l2i C d10_114 (pc' := 115) rfl) ?_
        have ixD := own_ixD k6 hc1 hc2 hc3
        obtain ⟨pD, pDa, pDb⟩ := own_pwl sh.toInt32 (by omega)
        refine OG.ow (OG.laload C A_pw (own_ib (n := 19) rfl (by omega)) pDa d10_115 (pc' := 116) rfl) ?_
        refine OG.ow (OG.ldiv C d10_116 (own_nz pDb) (pc' := 117) rfl) ?_
        refine OG.ow (OG.lstore C d10_117 (ls' := #[.val (.ref x0), .val (.int x1), .val (.long hi), .second, .val (.long lo), .second, .val (.long sh), .second, .unset, .unset, .val (.long pC), .second, .val (.long (lo / pD)), .second]) rfl (pc' := 119) rfl) ?_
        refine OG.ow (OG.lloadN C d10_119 rfl (pc' := 120) rfl) ?_
        refine OG.ow (OG.ldcL C (w68 hw) d10_120 (pc' := 123) rfl) ?_
        refine OG.ow (OG.lload C d10_123 rfl (pc' := 125) rfl) ?_
        refine OG.ow (OG.lsub C d10_125 (pc' := 126) rfl) ?_
        refine OG.ow (OG.lload C d10_126 rfl (pc' := 128) rfl) ?_
        refine OG.ow (OG.ldiv C d10_128 (own_nz pCb) (pc' := 129) rfl) ?_
        refine OG.ow (OG.lcmp C d10_129 (pc' := 130) rfl) ?_
        by_cases hc11 : (((9223372036854775807 : Int64) - (lo / pD)) / pC) < hi
        · refine OG.ow (OG.ifNo C d10_130 (tltL hc11).2.2.2 (pc' := 133) rfl) ?_
          refine OG.ow (OG.ldcL C (w68 hw) d10_133 (pc' := 136) rfl) ?_
          refine OG.ow (OG.goto C d10_136 (by decide) (pc' := 146) (by decide)) ?_
          refine OG.ow (OG.lstore C d10_146 (ls' := #[.val (.ref x0), .val (.int x1), .val (.long hi), .second, .val (.long lo), .second, .val (.long sh), .second, .val (.long (9223372036854775807 : Int64)), .second, .val (.long pC), .second, .val (.long (lo / pD)), .second]) rfl (pc' := 148) rfl) ?_
          refine OG.ow (OG.goto C d10_148 (by decide) (pc' := 226) (by decide)) ?_
          refine OG.ow (OG.lload C d10_226 rfl (pc' := 228) rfl) ?_
          refine OW.retL C d10_228 (by decide) (by decide) ?_
          refine ⟨_, rfl, rfl, ?_⟩
          rw [k5]
          exact key_c1 k1 k2 k3 k4 k6 hc1 hc2 hc3 ixC pCb ixD pDb hc11
        · refine OG.ow (OG.ifYes C d10_130 (fltL hc11).2.2.2 (by decide) (pc' := 139) (by decide)) ?_
          refine OG.ow (OG.lloadN C d10_139 rfl (pc' := 140) rfl) ?_
          refine OG.ow (OG.lload C d10_140 rfl (pc' := 142) rfl) ?_
          refine OG.ow (OG.lmul C d10_142 (pc' := 143) rfl) ?_
          refine OG.ow (OG.lload C d10_143 rfl (pc' := 145) rfl) ?_
          refine OG.ow (OG.ladd C d10_145 (pc' := 146) rfl) ?_
          refine OG.ow (OG.lstore C d10_146 (ls' := #[.val (.ref x0), .val (.int x1), .val (.long hi), .second, .val (.long lo), .second, .val (.long sh), .second, .val (.long ((hi * pC) + (lo / pD))), .second, .val (.long pC), .second, .val (.long (lo / pD)), .second]) rfl (pc' := 148) rfl) ?_
          refine OG.ow (OG.goto C d10_148 (by decide) (pc' := 226) (by decide)) ?_
          refine OG.ow (OG.lload C d10_226 rfl (pc' := 228) rfl) ?_
          refine OW.retL C d10_228 (by decide) (by decide) ?_
          refine ⟨_, rfl, rfl, ?_⟩
          rw [k5]
          exact key_c0 k1 k2 k3 k4 k6 hc1 hc2 hc3 ixC pCb ixD pDb hc11
    · refine OG.ow (OG.ifNo C d10_68 (fltL hc2).1 (pc' := 71) rfl) ?_
      refine OG.ow (OG.lloadN C d10_71 rfl (pc' := 72) rfl) ?_
      refine OG.ow (OG.getS C (host := "") (Or.inl (w20 hw)) Via.refl S_pw d10_72 (pc' := 75) rfl) ?_
      refine OG.ow (OG.lload C d10_75 rfl (pc' := 77) rfl) ?_
      refine OG.ow (OG.l2i C d10_77 (pc' := 78) rfl) ?_
      refine OG.ow (OG.bipush C d10_78 (z := (18 : Int32)) (by decide) (pc' := 80) rfl) ?_
      refine OG.ow (OG.isub C d10_80 (pc' := 81) rfl) ?_
      have ixB := own_ixB k6 hc1 hc2
      obtain ⟨pB, pBa, pBb⟩ := own_pwl (sh.toInt32 - (18 : Int32)) (by omega)
      refine OG.ow (OG.laload C A_pw (own_ib (n := 19) rfl (by omega)) pBa d10_81 (pc' := 82) rfl) ?_
      refine OG.ow (OG.ldiv C d10_82 (own_nz pBb) (pc' := 83) rfl) ?_
      refine OG.ow (OG.lstore C d10_83 (ls' := #[.val (.ref x0), .val (.int x1), .val (.long hi), .second, .val (.long lo), .second, .val (.long sh), .second, .val (.long (hi / pB)), .second, .unset, .unset, .unset, .unset]) rfl (pc' := 85) rfl) ?_
      refine OG.ow (OG.goto C d10_85 (by decide) (pc' := 226) (by decide)) ?_
      refine OG.ow (OG.lload C d10_226 rfl (pc' := 228) rfl) ?_
      refine OW.retL C d10_228 (by decide) (by decide) ?_
      refine ⟨_, rfl, rfl, ?_⟩
      rw [k5]
      exact key_b k1 k2 k3 k4 k6 hc1 hc2 ixB pBb
  · refine OG.ow (OG.ifNo C d10_53 (fltL hc1).1 (pc' := 56) rfl) ?_
    refine OG.ow (OG.lconst C d10_56 (z := (0 : Int64)) rfl (pc' := 57) rfl) ?_
    refine OG.ow (OG.lstore C d10_57 (ls' := #[.val (.ref x0), .val (.int x1), .val (.long hi), .second, .val (.long lo), .second, .val (.long sh), .second, .val (.long (0 : Int64)), .second, .unset, .unset, .unset, .unset]) rfl (pc' := 59) rfl) ?_
    refine OG.ow (OG.goto C d10_59 (by decide) (pc' := 226) (by decide)) ?_
    refine OG.ow (OG.lload C d10_226 rfl (pc' := 228) rfl) ?_
    refine OW.retL C d10_228 (by decide) (by decide) ?_
    refine ⟨_, rfl, rfl, ?_⟩
    rw [k5]
    exact key_a k1 k2 k3 k4 k6 hc1
theorem d12_0 : decode method_3_code 0 = .ok (.bipush 10, 2) := by decide +kernel
theorem d12_2 : decode method_3_code 2 = .ok (.newarray .long, 2) := by decide +kernel
theorem d12_4 : decode method_3_code 4 = .ok (.dup, 1) := by decide +kernel
theorem d12_5 : decode method_3_code 5 = .ok (.iconst 0, 1) := by decide +kernel
theorem d12_6 : decode method_3_code 6 = .ok (.lconst 1, 1) := by decide +kernel
theorem d12_7 : decode method_3_code 7 = .ok (.lastore, 1) := by decide +kernel
theorem d12_8 : decode method_3_code 8 = .ok (.dup, 1) := by decide +kernel
theorem d12_9 : decode method_3_code 9 = .ok (.iconst 1, 1) := by decide +kernel
theorem d12_10 : decode method_3_code 10 = .ok (.ldc2_w 39, 3) := by decide +kernel
theorem d12_13 : decode method_3_code 13 = .ok (.lastore, 1) := by decide +kernel
theorem d12_14 : decode method_3_code 14 = .ok (.dup, 1) := by decide +kernel
theorem d12_15 : decode method_3_code 15 = .ok (.iconst 2, 1) := by decide +kernel
theorem d12_16 : decode method_3_code 16 = .ok (.ldc2_w 41, 3) := by decide +kernel
theorem d12_19 : decode method_3_code 19 = .ok (.lastore, 1) := by decide +kernel
theorem d12_20 : decode method_3_code 20 = .ok (.dup, 1) := by decide +kernel
theorem d12_21 : decode method_3_code 21 = .ok (.iconst 3, 1) := by decide +kernel
theorem d12_22 : decode method_3_code 22 = .ok (.ldc2_w 43, 3) := by decide +kernel
theorem d12_25 : decode method_3_code 25 = .ok (.lastore, 1) := by decide +kernel
theorem d12_26 : decode method_3_code 26 = .ok (.dup, 1) := by decide +kernel
theorem d12_27 : decode method_3_code 27 = .ok (.iconst 4, 1) := by decide +kernel
theorem d12_28 : decode method_3_code 28 = .ok (.ldc2_w 45, 3) := by decide +kernel
theorem d12_31 : decode method_3_code 31 = .ok (.lastore, 1) := by decide +kernel
theorem d12_32 : decode method_3_code 32 = .ok (.dup, 1) := by decide +kernel
theorem d12_33 : decode method_3_code 33 = .ok (.iconst 5, 1) := by decide +kernel
theorem d12_34 : decode method_3_code 34 = .ok (.ldc2_w 47, 3) := by decide +kernel
theorem d12_37 : decode method_3_code 37 = .ok (.lastore, 1) := by decide +kernel
theorem d12_38 : decode method_3_code 38 = .ok (.dup, 1) := by decide +kernel
theorem d12_39 : decode method_3_code 39 = .ok (.bipush 6, 2) := by decide +kernel
theorem d12_41 : decode method_3_code 41 = .ok (.ldc2_w 49, 3) := by decide +kernel
theorem d12_44 : decode method_3_code 44 = .ok (.lastore, 1) := by decide +kernel
theorem d12_45 : decode method_3_code 45 = .ok (.dup, 1) := by decide +kernel
theorem d12_46 : decode method_3_code 46 = .ok (.bipush 7, 2) := by decide +kernel
theorem d12_48 : decode method_3_code 48 = .ok (.ldc2_w 51, 3) := by decide +kernel
theorem d12_51 : decode method_3_code 51 = .ok (.lastore, 1) := by decide +kernel
theorem d12_52 : decode method_3_code 52 = .ok (.dup, 1) := by decide +kernel
theorem d12_53 : decode method_3_code 53 = .ok (.bipush 8, 2) := by decide +kernel
theorem d12_55 : decode method_3_code 55 = .ok (.ldc2_w 53, 3) := by decide +kernel
theorem d12_58 : decode method_3_code 58 = .ok (.lastore, 1) := by decide +kernel
theorem d12_59 : decode method_3_code 59 = .ok (.dup, 1) := by decide +kernel
theorem d12_60 : decode method_3_code 60 = .ok (.bipush 9, 2) := by decide +kernel
theorem d12_62 : decode method_3_code 62 = .ok (.ldc2_w 55, 3) := by decide +kernel
theorem d12_65 : decode method_3_code 65 = .ok (.lastore, 1) := by decide +kernel
theorem d12_66 : decode method_3_code 66 = .ok (.astore_n 1, 1) := by decide +kernel
theorem d12_67 : decode method_3_code 67 = .ok (.aload_n 1, 1) := by decide +kernel
theorem d12_68 : decode method_3_code 68 = .ok (.iload_n 0, 1) := by decide +kernel
theorem d12_69 : decode method_3_code 69 = .ok (.laload, 1) := by decide +kernel
theorem d12_70 : decode method_3_code 70 = .ok (.lreturn, 1) := by decide +kernel
set_option maxRecDepth 65536 in
set_option maxHeartbeats 40000000 in
theorem b12 {l : Launch} {Z : State} {a0 : Array Value} (hw : HW a0 Z) (x0 : Int32) {n0 : Nat} {h : Heap} (Z0 : n0 ≤ h.size) (hi : 0 ≤ x0.toInt ∧ x0.toInt ≤ 9) : OM l Z (⟨"com/example/planwright/planwright/service/testing/PercentageQuotientKeyPinLaw", "pow10", "(I)J"⟩ : MethodName) method_3_code 2 (some .long) ⟨0, 1, 10, 0⟩ n0 h #[(.int x0)] (fun v h' => ∃ z : Int64, v = some (.long z) ∧ Keep h h' [] ∧ z.toInt = ((10 ^ x0.toInt.toNat : Nat) : Int)) 1 10 := by
  refine OM.of_body (ls := #[.val (.int x0), .unset]) (plainFor_of_name pn_1) (fun m => by first | (simp [entryFrame, mkF, argsToLocals, Value.category]; done) | rfl) ?_
  intro p e s m below meth c C
  refine OG.ow (OG.bipush C d12_0 (z := (10 : Int32)) (by decide) (pc' := 2) rfl) ?_
  refine OW.newP C (ty := .long) rfl (w12 hw) (by decide) (cap := 10) (by decide) (by decide) d12_2 (by decide) (by decide) (pc' := 4) rfl ?_
  intro a1 h2 ga1 Eh2 Aa1
  refine OG.ow (OG.dup C d12_4 rfl (pc' := 5) rfl) ?_
  refine OG.ow (OG.iconst C d12_5 (z := (0 : Int32)) rfl (pc' := 6) rfl) ?_
  refine OG.ow (OG.lconst C d12_6 (z := (1 : Int64)) rfl (pc' := 7) rfl) ?_
  refine OW.lastore C (show OA Z h2 a1 .long [(.long (0 : Int64)), (.long (0 : Int64)), (.long (0 : Int64)), (.long (0 : Int64)), (.long (0 : Int64)), (.long (0 : Int64)), (.long (0 : Int64)), (.long (0 : Int64)), (.long (0 : Int64)), (.long (0 : Int64))] from Aa1) (own_ib (n := 10) rfl (by decide)) (Nat.le_trans Z0 (Nat.le_of_eq ga1)) d12_7 (pc' := 8) rfl ?_
  intro h3 Wh3
  have G4 : OA Z h3 a1 .long [(.long (1 : Int64)), (.long (0 : Int64)), (.long (0 : Int64)), (.long (0 : Int64)), (.long (0 : Int64)), (.long (0 : Int64)), (.long (0 : Int64)), (.long (0 : Int64)), (.long (0 : Int64)), (.long (0 : Int64))] := OA.same (show OA Z h2 a1 .long [(.long (0 : Int64)), (.long (0 : Int64)), (.long (0 : Int64)), (.long (0 : Int64)), (.long (0 : Int64)), (.long (0 : Int64)), (.long (0 : Int64)), (.long (0 : Int64)), (.long (0 : Int64)), (.long (0 : Int64))] from Aa1) Wh3
  refine OG.ow (OG.dup C d12_8 rfl (pc' := 9) rfl) ?_
  refine OG.ow (OG.iconst C d12_9 (z := (1 : Int32)) rfl (pc' := 10) rfl) ?_
  refine OG.ow (OG.ldcL C (w75 hw) d12_10 (pc' := 13) rfl) ?_
  refine OW.lastore C G4 (own_ib (n := 10) rfl (by decide)) (Nat.le_trans Z0 (Nat.le_of_eq ga1)) d12_13 (pc' := 14) rfl ?_
  intro h5 Wh5
  have G6 : OA Z h5 a1 .long [(.long (1 : Int64)), (.long (10 : Int64)), (.long (0 : Int64)), (.long (0 : Int64)), (.long (0 : Int64)), (.long (0 : Int64)), (.long (0 : Int64)), (.long (0 : Int64)), (.long (0 : Int64)), (.long (0 : Int64))] := OA.same G4 Wh5
  refine OG.ow (OG.dup C d12_14 rfl (pc' := 15) rfl) ?_
  refine OG.ow (OG.iconst C d12_15 (z := (2 : Int32)) rfl (pc' := 16) rfl) ?_
  refine OG.ow (OG.ldcL C (w76 hw) d12_16 (pc' := 19) rfl) ?_
  refine OW.lastore C G6 (own_ib (n := 10) rfl (by decide)) (Nat.le_trans Z0 (Nat.le_of_eq ga1)) d12_19 (pc' := 20) rfl ?_
  intro h7 Wh7
  have G8 : OA Z h7 a1 .long [(.long (1 : Int64)), (.long (10 : Int64)), (.long (100 : Int64)), (.long (0 : Int64)), (.long (0 : Int64)), (.long (0 : Int64)), (.long (0 : Int64)), (.long (0 : Int64)), (.long (0 : Int64)), (.long (0 : Int64))] := OA.same G6 Wh7
  refine OG.ow (OG.dup C d12_20 rfl (pc' := 21) rfl) ?_
  refine OG.ow (OG.iconst C d12_21 (z := (3 : Int32)) rfl (pc' := 22) rfl) ?_
  refine OG.ow (OG.ldcL C (w77 hw) d12_22 (pc' := 25) rfl) ?_
  refine OW.lastore C G8 (own_ib (n := 10) rfl (by decide)) (Nat.le_trans Z0 (Nat.le_of_eq ga1)) d12_25 (pc' := 26) rfl ?_
  intro h9 Wh9
  have G10 : OA Z h9 a1 .long [(.long (1 : Int64)), (.long (10 : Int64)), (.long (100 : Int64)), (.long (1000 : Int64)), (.long (0 : Int64)), (.long (0 : Int64)), (.long (0 : Int64)), (.long (0 : Int64)), (.long (0 : Int64)), (.long (0 : Int64))] := OA.same G8 Wh9
  refine OG.ow (OG.dup C d12_26 rfl (pc' := 27) rfl) ?_
  refine OG.ow (OG.iconst C d12_27 (z := (4 : Int32)) rfl (pc' := 28) rfl) ?_
  refine OG.ow (OG.ldcL C (w78 hw) d12_28 (pc' := 31) rfl) ?_
  refine OW.lastore C G10 (own_ib (n := 10) rfl (by decide)) (Nat.le_trans Z0 (Nat.le_of_eq ga1)) d12_31 (pc' := 32) rfl ?_
  intro h11 Wh11
  have G12 : OA Z h11 a1 .long [(.long (1 : Int64)), (.long (10 : Int64)), (.long (100 : Int64)), (.long (1000 : Int64)), (.long (10000 : Int64)), (.long (0 : Int64)), (.long (0 : Int64)), (.long (0 : Int64)), (.long (0 : Int64)), (.long (0 : Int64))] := OA.same G10 Wh11
  refine OG.ow (OG.dup C d12_32 rfl (pc' := 33) rfl) ?_
  refine OG.ow (OG.iconst C d12_33 (z := (5 : Int32)) rfl (pc' := 34) rfl) ?_
  refine OG.ow (OG.ldcL C (w79 hw) d12_34 (pc' := 37) rfl) ?_
  refine OW.lastore C G12 (own_ib (n := 10) rfl (by decide)) (Nat.le_trans Z0 (Nat.le_of_eq ga1)) d12_37 (pc' := 38) rfl ?_
  intro h13 Wh13
  have G14 : OA Z h13 a1 .long [(.long (1 : Int64)), (.long (10 : Int64)), (.long (100 : Int64)), (.long (1000 : Int64)), (.long (10000 : Int64)), (.long (100000 : Int64)), (.long (0 : Int64)), (.long (0 : Int64)), (.long (0 : Int64)), (.long (0 : Int64))] := OA.same G12 Wh13
  refine OG.ow (OG.dup C d12_38 rfl (pc' := 39) rfl) ?_
  refine OG.ow (OG.bipush C d12_39 (z := (6 : Int32)) (by decide) (pc' := 41) rfl) ?_
  refine OG.ow (OG.ldcL C (w80 hw) d12_41 (pc' := 44) rfl) ?_
  refine OW.lastore C G14 (own_ib (n := 10) rfl (by decide)) (Nat.le_trans Z0 (Nat.le_of_eq ga1)) d12_44 (pc' := 45) rfl ?_
  intro h15 Wh15
  have G16 : OA Z h15 a1 .long [(.long (1 : Int64)), (.long (10 : Int64)), (.long (100 : Int64)), (.long (1000 : Int64)), (.long (10000 : Int64)), (.long (100000 : Int64)), (.long (1000000 : Int64)), (.long (0 : Int64)), (.long (0 : Int64)), (.long (0 : Int64))] := OA.same G14 Wh15
  refine OG.ow (OG.dup C d12_45 rfl (pc' := 46) rfl) ?_
  refine OG.ow (OG.bipush C d12_46 (z := (7 : Int32)) (by decide) (pc' := 48) rfl) ?_
  refine OG.ow (OG.ldcL C (w81 hw) d12_48 (pc' := 51) rfl) ?_
  refine OW.lastore C G16 (own_ib (n := 10) rfl (by decide)) (Nat.le_trans Z0 (Nat.le_of_eq ga1)) d12_51 (pc' := 52) rfl ?_
  intro h17 Wh17
  have G18 : OA Z h17 a1 .long [(.long (1 : Int64)), (.long (10 : Int64)), (.long (100 : Int64)), (.long (1000 : Int64)), (.long (10000 : Int64)), (.long (100000 : Int64)), (.long (1000000 : Int64)), (.long (10000000 : Int64)), (.long (0 : Int64)), (.long (0 : Int64))] := OA.same G16 Wh17
  refine OG.ow (OG.dup C d12_52 rfl (pc' := 53) rfl) ?_
  refine OG.ow (OG.bipush C d12_53 (z := (8 : Int32)) (by decide) (pc' := 55) rfl) ?_
  refine OG.ow (OG.ldcL C (w82 hw) d12_55 (pc' := 58) rfl) ?_
  refine OW.lastore C G18 (own_ib (n := 10) rfl (by decide)) (Nat.le_trans Z0 (Nat.le_of_eq ga1)) d12_58 (pc' := 59) rfl ?_
  intro h19 Wh19
  have G20 : OA Z h19 a1 .long [(.long (1 : Int64)), (.long (10 : Int64)), (.long (100 : Int64)), (.long (1000 : Int64)), (.long (10000 : Int64)), (.long (100000 : Int64)), (.long (1000000 : Int64)), (.long (10000000 : Int64)), (.long (100000000 : Int64)), (.long (0 : Int64))] := OA.same G18 Wh19
  refine OG.ow (OG.dup C d12_59 rfl (pc' := 60) rfl) ?_
  refine OG.ow (OG.bipush C d12_60 (z := (9 : Int32)) (by decide) (pc' := 62) rfl) ?_
  refine OG.ow (OG.ldcL C (w83 hw) d12_62 (pc' := 65) rfl) ?_
  refine OW.lastore C G20 (own_ib (n := 10) rfl (by decide)) (Nat.le_trans Z0 (Nat.le_of_eq ga1)) d12_65 (pc' := 66) rfl ?_
  intro h21 Wh21
  have G22 : OA Z h21 a1 .long [(.long (1 : Int64)), (.long (10 : Int64)), (.long (100 : Int64)), (.long (1000 : Int64)), (.long (10000 : Int64)), (.long (100000 : Int64)), (.long (1000000 : Int64)), (.long (10000000 : Int64)), (.long (100000000 : Int64)), (.long (1000000000 : Int64))] := OA.same G20 Wh21
  refine OG.ow (OG.astoreN C d12_66 rfl (ls' := #[.val (.int x0), .val (.ref a1)]) rfl (pc' := 67) rfl) ?_
  refine OG.ow (OG.aloadN C d12_67 rfl rfl (pc' := 68) rfl) ?_
  refine OG.ow (OG.iloadN C d12_68 rfl (pc' := 69) rfl) ?_
  obtain ⟨z, z1, z2⟩ := own_pw9 x0 hi
  refine OG.ow (OG.laload C G22 (own_ib (n := 10) rfl (by omega)) z1 d12_69 (pc' := 70) rfl) ?_
  refine OW.retL C d12_70 (by decide) (by decide) ?_
  exact ⟨_, rfl, ((((((((((((Keep.refl h []).ext Eh2).wr Wh3 (Or.inr (Nat.le_trans (Nat.le_refl _) (Nat.le_of_eq ga1)))).wr Wh5 (Or.inr (Nat.le_trans (Nat.le_refl _) (Nat.le_of_eq ga1)))).wr Wh7 (Or.inr (Nat.le_trans (Nat.le_refl _) (Nat.le_of_eq ga1)))).wr Wh9 (Or.inr (Nat.le_trans (Nat.le_refl _) (Nat.le_of_eq ga1)))).wr Wh11 (Or.inr (Nat.le_trans (Nat.le_refl _) (Nat.le_of_eq ga1)))).wr Wh13 (Or.inr (Nat.le_trans (Nat.le_refl _) (Nat.le_of_eq ga1)))).wr Wh15 (Or.inr (Nat.le_trans (Nat.le_refl _) (Nat.le_of_eq ga1)))).wr Wh17 (Or.inr (Nat.le_trans (Nat.le_refl _) (Nat.le_of_eq ga1)))).wr Wh19 (Or.inr (Nat.le_trans (Nat.le_refl _) (Nat.le_of_eq ga1)))).wr Wh21 (Or.inr (Nat.le_trans (Nat.le_refl _) (Nat.le_of_eq ga1)))), z2⟩
theorem d13_0 : decode method_4_code 0 = .ok (.iload_n 1, 1) := by decide +kernel
theorem d13_1 : decode method_4_code 1 = .ok (.ifCond .lt 14, 3) := by decide +kernel
theorem d13_4 : decode method_4_code 4 = .ok (.iload_n 1, 1) := by decide +kernel
theorem d13_5 : decode method_4_code 5 = .ok (.iconst 5, 1) := by decide +kernel
theorem d13_6 : decode method_4_code 6 = .ok (.if_icmp .ge 9, 3) := by decide +kernel
theorem d13_9 : decode method_4_code 9 = .ok (.aload_n 0, 1) := by decide +kernel
theorem d13_10 : decode method_4_code 10 = .ok (.iload_n 1, 1) := by decide +kernel
theorem d13_11 : decode method_4_code 11 = .ok (.laload, 1) := by decide +kernel
theorem d13_12 : decode method_4_code 12 = .ok (.goto 4, 3) := by decide +kernel
theorem d13_15 : decode method_4_code 15 = .ok (.lconst 0, 1) := by decide +kernel
theorem d13_16 : decode method_4_code 16 = .ok (.lreturn, 1) := by decide +kernel
set_option maxRecDepth 65536 in
set_option maxHeartbeats 40000000 in
theorem b13 {l : Launch} {Z : State} {a0 : Array Value} (hw : HW a0 Z) (x0 : Addr) (x1 : Int32) {q0 q1 q2 q3 q4 : Int64} {n0 : Nat} {h : Heap} (Z0 : n0 ≤ h.size) (A0 : OA Z h x0 .long [(.long q0), (.long q1), (.long q2), (.long q3), (.long q4)]) : OM l Z (⟨"com/example/planwright/planwright/service/testing/PercentageQuotientKeyPinLaw", "at", "([JI)J"⟩ : MethodName) method_4_code 2 (some .long) ⟨0, 0, 0, 0⟩ n0 h #[(.ref x0), (.int x1)] (fun v h' => v = some (.long (ATF q0 q1 q2 q3 q4 x1)) ∧ h' = h) 0 0 := by
  refine OM.of_body (ls := #[.val (.ref x0), .val (.int x1)]) (plainFor_of_name pn_1) (fun m => by first | (simp [entryFrame, mkF, argsToLocals, Value.category]; done) | rfl) ?_
  intro p e s m below meth c C
  refine OG.ow (OG.iloadN C d13_0 rfl (pc' := 1) rfl) ?_
  by_cases hc1 : x1 < (0 : Int32)
  · refine OG.ow (OG.ifYes C d13_1 ((if0 _ _).trans (tlt hc1).1) (by decide) (pc' := 15) (by decide)) ?_
    refine OG.ow (OG.lconst C d13_15 (z := (0 : Int64)) rfl (pc' := 16) rfl) ?_
    refine OW.retL C d13_16 (by decide) (by decide) ?_
    exact ⟨by rw [atf_out q0 q1 q2 q3 q4 (Or.inl hc1)], rfl⟩
  · refine OG.ow (OG.ifNo C d13_1 ((if0 _ _).trans (flt hc1).1) (pc' := 4) rfl) ?_
    refine OG.ow (OG.iloadN C d13_4 rfl (pc' := 5) rfl) ?_
    refine OG.ow (OG.iconst C d13_5 (z := (5 : Int32)) rfl (pc' := 6) rfl) ?_
    by_cases hc2 : x1 < (5 : Int32)
    · refine OG.ow (OG.icmpNo C d13_6 (tlt hc2).2.1 (pc' := 9) rfl) ?_
      refine OG.ow (OG.aloadN C d13_9 rfl rfl (pc' := 10) rfl) ?_
      refine OG.ow (OG.iloadN C d13_10 rfl (pc' := 11) rfl) ?_
      refine OG.ow (OG.laload C A0 (atf_in q0 q1 q2 q3 q4 hc1 hc2).1 (atf_in q0 q1 q2 q3 q4 hc1 hc2).2 d13_11 (pc' := 12) rfl) ?_
      refine OG.ow (OG.goto C d13_12 (by decide) (pc' := 16) (by decide)) ?_
      refine OW.retL C d13_16 (by decide) (by decide) ?_
      exact ⟨rfl, rfl⟩
    · refine OG.ow (OG.icmpYes C d13_6 (flt hc2).2.1 (by decide) (pc' := 15) (by decide)) ?_
      refine OG.ow (OG.lconst C d13_15 (z := (0 : Int64)) rfl (pc' := 16) rfl) ?_
      refine OW.retL C d13_16 (by decide) (by decide) ?_
      exact ⟨by rw [atf_out q0 q1 q2 q3 q4 (Or.inr hc2)], rfl⟩
theorem d11_0 : decode method_5_code 0 = .ok (.lload_n 0, 1) := by decide +kernel
theorem d11_1 : decode method_5_code 1 = .ok (.lload_n 2, 1) := by decide +kernel
theorem d11_2 : decode method_5_code 2 = .ok (.lor, 1) := by decide +kernel
theorem d11_3 : decode method_5_code 3 = .ok (.lload 4, 2) := by decide +kernel
theorem d11_5 : decode method_5_code 5 = .ok (.lor, 1) := by decide +kernel
theorem d11_6 : decode method_5_code 6 = .ok (.lload 6, 2) := by decide +kernel
theorem d11_8 : decode method_5_code 8 = .ok (.lor, 1) := by decide +kernel
theorem d11_9 : decode method_5_code 9 = .ok (.lconst 0, 1) := by decide +kernel
theorem d11_10 : decode method_5_code 10 = .ok (.lcmp, 1) := by decide +kernel
theorem d11_11 : decode method_5_code 11 = .ok (.ifCond .ne 7, 3) := by decide +kernel
theorem d11_14 : decode method_5_code 14 = .ok (.iconst 1, 1) := by decide +kernel
theorem d11_15 : decode method_5_code 15 = .ok (.goto 4, 3) := by decide +kernel
theorem d11_18 : decode method_5_code 18 = .ok (.iconst 0, 1) := by decide +kernel
theorem d11_19 : decode method_5_code 19 = .ok (.istore 10, 2) := by decide +kernel
theorem d11_21 : decode method_5_code 21 = .ok (.iload 10, 2) := by decide +kernel
theorem d11_23 : decode method_5_code 23 = .ok (.ifCond .ne 12, 3) := by decide +kernel
theorem d11_26 : decode method_5_code 26 = .ok (.lload 8, 2) := by decide +kernel
theorem d11_28 : decode method_5_code 28 = .ok (.ldc2_w 57, 3) := by decide +kernel
theorem d11_31 : decode method_5_code 31 = .ok (.lcmp, 1) := by decide +kernel
theorem d11_32 : decode method_5_code 32 = .ok (.ifCond .gt 5, 3) := by decide +kernel
theorem d11_35 : decode method_5_code 35 = .ok (.lconst 0, 1) := by decide +kernel
theorem d11_36 : decode method_5_code 36 = .ok (.lreturn, 1) := by decide +kernel
theorem d11_37 : decode method_5_code 37 = .ok (.lload 8, 2) := by decide +kernel
theorem d11_39 : decode method_5_code 39 = .ok (.ldc2_w 59, 3) := by decide +kernel
theorem d11_42 : decode method_5_code 42 = .ok (.lcmp, 1) := by decide +kernel
theorem d11_43 : decode method_5_code 43 = .ok (.ifCond .lt 7, 3) := by decide +kernel
theorem d11_46 : decode method_5_code 46 = .ok (.ldc2_w 9, 3) := by decide +kernel
theorem d11_49 : decode method_5_code 49 = .ok (.lreturn, 1) := by decide +kernel
theorem d11_50 : decode method_5_code 50 = .ok (.lload 8, 2) := by decide +kernel
theorem d11_52 : decode method_5_code 52 = .ok (.ldc2_w 61, 3) := by decide +kernel
theorem d11_55 : decode method_5_code 55 = .ok (.ladd, 1) := by decide +kernel
theorem d11_56 : decode method_5_code 56 = .ok (.lstore 11, 2) := by decide +kernel
theorem d11_58 : decode method_5_code 58 = .ok (.lload 11, 2) := by decide +kernel
theorem d11_60 : decode method_5_code 60 = .ok (.ldc2_w 63, 3) := by decide +kernel
theorem d11_63 : decode method_5_code 63 = .ok (.ldiv, 1) := by decide +kernel
theorem d11_64 : decode method_5_code 64 = .ok (.l2i, 1) := by decide +kernel
theorem d11_65 : decode method_5_code 65 = .ok (.iconst 4, 1) := by decide +kernel
theorem d11_66 : decode method_5_code 66 = .ok (.isub, 1) := by decide +kernel
theorem d11_67 : decode method_5_code 67 = .ok (.istore 13, 2) := by decide +kernel
theorem d11_69 : decode method_5_code 69 = .ok (.lload 11, 2) := by decide +kernel
theorem d11_71 : decode method_5_code 71 = .ok (.ldc2_w 63, 3) := by decide +kernel
theorem d11_74 : decode method_5_code 74 = .ok (.lrem, 1) := by decide +kernel
theorem d11_75 : decode method_5_code 75 = .ok (.l2i, 1) := by decide +kernel
theorem d11_76 : decode method_5_code 76 = .ok (.istore 14, 2) := by decide +kernel
theorem d11_78 : decode method_5_code 78 = .ok (.iload 14, 2) := by decide +kernel
theorem d11_80 : decode method_5_code 80 = .ok (.invokestatic 65, 3) := by decide +kernel
theorem d11_83 : decode method_5_code 83 = .ok (.lstore 15, 2) := by decide +kernel
theorem d11_85 : decode method_5_code 85 = .ok (.bipush 9, 2) := by decide +kernel
theorem d11_87 : decode method_5_code 87 = .ok (.iload 14, 2) := by decide +kernel
theorem d11_89 : decode method_5_code 89 = .ok (.isub, 1) := by decide +kernel
theorem d11_90 : decode method_5_code 90 = .ok (.invokestatic 65, 3) := by decide +kernel
theorem d11_93 : decode method_5_code 93 = .ok (.lstore 17, 2) := by decide +kernel
theorem d11_95 : decode method_5_code 95 = .ok (.iconst 5, 1) := by decide +kernel
theorem d11_96 : decode method_5_code 96 = .ok (.newarray .long, 2) := by decide +kernel
theorem d11_98 : decode method_5_code 98 = .ok (.astore 19, 2) := by decide +kernel
theorem d11_100 : decode method_5_code 100 = .ok (.aload 19, 2) := by decide +kernel
theorem d11_102 : decode method_5_code 102 = .ok (.iconst 0, 1) := by decide +kernel
theorem d11_103 : decode method_5_code 103 = .ok (.lload_n 0, 1) := by decide +kernel
theorem d11_104 : decode method_5_code 104 = .ok (.lload 17, 2) := by decide +kernel
theorem d11_106 : decode method_5_code 106 = .ok (.lrem, 1) := by decide +kernel
theorem d11_107 : decode method_5_code 107 = .ok (.lload 15, 2) := by decide +kernel
theorem d11_109 : decode method_5_code 109 = .ok (.lmul, 1) := by decide +kernel
theorem d11_110 : decode method_5_code 110 = .ok (.lastore, 1) := by decide +kernel
theorem d11_111 : decode method_5_code 111 = .ok (.aload 19, 2) := by decide +kernel
theorem d11_113 : decode method_5_code 113 = .ok (.iconst 1, 1) := by decide +kernel
theorem d11_114 : decode method_5_code 114 = .ok (.lload_n 2, 1) := by decide +kernel
theorem d11_115 : decode method_5_code 115 = .ok (.lload 17, 2) := by decide +kernel
theorem d11_117 : decode method_5_code 117 = .ok (.lrem, 1) := by decide +kernel
theorem d11_118 : decode method_5_code 118 = .ok (.lload 15, 2) := by decide +kernel
theorem d11_120 : decode method_5_code 120 = .ok (.lmul, 1) := by decide +kernel
theorem d11_121 : decode method_5_code 121 = .ok (.lload_n 0, 1) := by decide +kernel
theorem d11_122 : decode method_5_code 122 = .ok (.lload 17, 2) := by decide +kernel
theorem d11_124 : decode method_5_code 124 = .ok (.ldiv, 1) := by decide +kernel
theorem d11_125 : decode method_5_code 125 = .ok (.ladd, 1) := by decide +kernel
theorem d11_126 : decode method_5_code 126 = .ok (.lastore, 1) := by decide +kernel
theorem d11_127 : decode method_5_code 127 = .ok (.aload 19, 2) := by decide +kernel
theorem d11_129 : decode method_5_code 129 = .ok (.iconst 2, 1) := by decide +kernel
theorem d11_130 : decode method_5_code 130 = .ok (.lload 4, 2) := by decide +kernel
theorem d11_132 : decode method_5_code 132 = .ok (.lload 17, 2) := by decide +kernel
theorem d11_134 : decode method_5_code 134 = .ok (.lrem, 1) := by decide +kernel
theorem d11_135 : decode method_5_code 135 = .ok (.lload 15, 2) := by decide +kernel
theorem d11_137 : decode method_5_code 137 = .ok (.lmul, 1) := by decide +kernel
theorem d11_138 : decode method_5_code 138 = .ok (.lload_n 2, 1) := by decide +kernel
theorem d11_139 : decode method_5_code 139 = .ok (.lload 17, 2) := by decide +kernel
theorem d11_141 : decode method_5_code 141 = .ok (.ldiv, 1) := by decide +kernel
theorem d11_142 : decode method_5_code 142 = .ok (.ladd, 1) := by decide +kernel
theorem d11_143 : decode method_5_code 143 = .ok (.lastore, 1) := by decide +kernel
theorem d11_144 : decode method_5_code 144 = .ok (.aload 19, 2) := by decide +kernel
theorem d11_146 : decode method_5_code 146 = .ok (.iconst 3, 1) := by decide +kernel
theorem d11_147 : decode method_5_code 147 = .ok (.lload 6, 2) := by decide +kernel
theorem d11_149 : decode method_5_code 149 = .ok (.lload 17, 2) := by decide +kernel
theorem d11_151 : decode method_5_code 151 = .ok (.lrem, 1) := by decide +kernel
theorem d11_152 : decode method_5_code 152 = .ok (.lload 15, 2) := by decide +kernel
theorem d11_154 : decode method_5_code 154 = .ok (.lmul, 1) := by decide +kernel
theorem d11_155 : decode method_5_code 155 = .ok (.lload 4, 2) := by decide +kernel
theorem d11_157 : decode method_5_code 157 = .ok (.lload 17, 2) := by decide +kernel
theorem d11_159 : decode method_5_code 159 = .ok (.ldiv, 1) := by decide +kernel
theorem d11_160 : decode method_5_code 160 = .ok (.ladd, 1) := by decide +kernel
theorem d11_161 : decode method_5_code 161 = .ok (.lastore, 1) := by decide +kernel
theorem d11_162 : decode method_5_code 162 = .ok (.aload 19, 2) := by decide +kernel
theorem d11_164 : decode method_5_code 164 = .ok (.iconst 4, 1) := by decide +kernel
theorem d11_165 : decode method_5_code 165 = .ok (.lload 6, 2) := by decide +kernel
theorem d11_167 : decode method_5_code 167 = .ok (.lload 17, 2) := by decide +kernel
theorem d11_169 : decode method_5_code 169 = .ok (.ldiv, 1) := by decide +kernel
theorem d11_170 : decode method_5_code 170 = .ok (.lastore, 1) := by decide +kernel
theorem d11_171 : decode method_5_code 171 = .ok (.aload 19, 2) := by decide +kernel
theorem d11_173 : decode method_5_code 173 = .ok (.iload 13, 2) := by decide +kernel
theorem d11_175 : decode method_5_code 175 = .ok (.ineg, 1) := by decide +kernel
theorem d11_176 : decode method_5_code 176 = .ok (.invokestatic 68, 3) := by decide +kernel
theorem d11_179 : decode method_5_code 179 = .ok (.lstore 20, 2) := by decide +kernel
theorem d11_181 : decode method_5_code 181 = .ok (.aload 19, 2) := by decide +kernel
theorem d11_183 : decode method_5_code 183 = .ok (.iconst 1, 1) := by decide +kernel
theorem d11_184 : decode method_5_code 184 = .ok (.iload 13, 2) := by decide +kernel
theorem d11_186 : decode method_5_code 186 = .ok (.isub, 1) := by decide +kernel
theorem d11_187 : decode method_5_code 187 = .ok (.invokestatic 68, 3) := by decide +kernel
theorem d11_190 : decode method_5_code 190 = .ok (.lstore 22, 2) := by decide +kernel
theorem d11_192 : decode method_5_code 192 = .ok (.aload 19, 2) := by decide +kernel
theorem d11_194 : decode method_5_code 194 = .ok (.iconst 2, 1) := by decide +kernel
theorem d11_195 : decode method_5_code 195 = .ok (.iload 13, 2) := by decide +kernel
theorem d11_197 : decode method_5_code 197 = .ok (.isub, 1) := by decide +kernel
theorem d11_198 : decode method_5_code 198 = .ok (.invokestatic 68, 3) := by decide +kernel
theorem d11_201 : decode method_5_code 201 = .ok (.lstore 24, 2) := by decide +kernel
theorem d11_203 : decode method_5_code 203 = .ok (.aload 19, 2) := by decide +kernel
theorem d11_205 : decode method_5_code 205 = .ok (.iconst 3, 1) := by decide +kernel
theorem d11_206 : decode method_5_code 206 = .ok (.iload 13, 2) := by decide +kernel
theorem d11_208 : decode method_5_code 208 = .ok (.isub, 1) := by decide +kernel
theorem d11_209 : decode method_5_code 209 = .ok (.invokestatic 68, 3) := by decide +kernel
theorem d11_212 : decode method_5_code 212 = .ok (.aload 19, 2) := by decide +kernel
theorem d11_214 : decode method_5_code 214 = .ok (.iconst 4, 1) := by decide +kernel
theorem d11_215 : decode method_5_code 215 = .ok (.iload 13, 2) := by decide +kernel
theorem d11_217 : decode method_5_code 217 = .ok (.isub, 1) := by decide +kernel
theorem d11_218 : decode method_5_code 218 = .ok (.invokestatic 68, 3) := by decide +kernel
theorem d11_221 : decode method_5_code 221 = .ok (.lor, 1) := by decide +kernel
theorem d11_222 : decode method_5_code 222 = .ok (.aload 19, 2) := by decide +kernel
theorem d11_224 : decode method_5_code 224 = .ok (.iconst 5, 1) := by decide +kernel
theorem d11_225 : decode method_5_code 225 = .ok (.iload 13, 2) := by decide +kernel
theorem d11_227 : decode method_5_code 227 = .ok (.isub, 1) := by decide +kernel
theorem d11_228 : decode method_5_code 228 = .ok (.invokestatic 68, 3) := by decide +kernel
theorem d11_231 : decode method_5_code 231 = .ok (.lor, 1) := by decide +kernel
theorem d11_232 : decode method_5_code 232 = .ok (.aload 19, 2) := by decide +kernel
theorem d11_234 : decode method_5_code 234 = .ok (.bipush 6, 2) := by decide +kernel
theorem d11_236 : decode method_5_code 236 = .ok (.iload 13, 2) := by decide +kernel
theorem d11_238 : decode method_5_code 238 = .ok (.isub, 1) := by decide +kernel
theorem d11_239 : decode method_5_code 239 = .ok (.invokestatic 68, 3) := by decide +kernel
theorem d11_242 : decode method_5_code 242 = .ok (.lor, 1) := by decide +kernel
theorem d11_243 : decode method_5_code 243 = .ok (.aload 19, 2) := by decide +kernel
theorem d11_245 : decode method_5_code 245 = .ok (.bipush 7, 2) := by decide +kernel
theorem d11_247 : decode method_5_code 247 = .ok (.iload 13, 2) := by decide +kernel
theorem d11_249 : decode method_5_code 249 = .ok (.isub, 1) := by decide +kernel
theorem d11_250 : decode method_5_code 250 = .ok (.invokestatic 68, 3) := by decide +kernel
theorem d11_253 : decode method_5_code 253 = .ok (.lor, 1) := by decide +kernel
theorem d11_254 : decode method_5_code 254 = .ok (.lstore 26, 2) := by decide +kernel
theorem d11_256 : decode method_5_code 256 = .ok (.lload 26, 2) := by decide +kernel
theorem d11_258 : decode method_5_code 258 = .ok (.lconst 0, 1) := by decide +kernel
theorem d11_259 : decode method_5_code 259 = .ok (.lcmp, 1) := by decide +kernel
theorem d11_260 : decode method_5_code 260 = .ok (.ifCond .ne 48, 3) := by decide +kernel
theorem d11_263 : decode method_5_code 263 = .ok (.lload 24, 2) := by decide +kernel
theorem d11_265 : decode method_5_code 265 = .ok (.ldc2_w 63, 3) := by decide +kernel
theorem d11_268 : decode method_5_code 268 = .ok (.lcmp, 1) := by decide +kernel
theorem d11_269 : decode method_5_code 269 = .ok (.ifCond .gt 39, 3) := by decide +kernel
theorem d11_272 : decode method_5_code 272 = .ok (.lload 24, 2) := by decide +kernel
theorem d11_274 : decode method_5_code 274 = .ok (.ldc2_w 63, 3) := by decide +kernel
theorem d11_277 : decode method_5_code 277 = .ok (.lcmp, 1) := by decide +kernel
theorem d11_278 : decode method_5_code 278 = .ok (.ifCond .ne 34, 3) := by decide +kernel
theorem d11_281 : decode method_5_code 281 = .ok (.lload 22, 2) := by decide +kernel
theorem d11_283 : decode method_5_code 283 = .ok (.ldc2_w 72, 3) := by decide +kernel
theorem d11_286 : decode method_5_code 286 = .ok (.lcmp, 1) := by decide +kernel
theorem d11_287 : decode method_5_code 287 = .ok (.ifCond .gt 21, 3) := by decide +kernel
theorem d11_290 : decode method_5_code 290 = .ok (.lload 22, 2) := by decide +kernel
theorem d11_292 : decode method_5_code 292 = .ok (.ldc2_w 72, 3) := by decide +kernel
theorem d11_295 : decode method_5_code 295 = .ok (.lcmp, 1) := by decide +kernel
theorem d11_296 : decode method_5_code 296 = .ok (.ifCond .ne 16, 3) := by decide +kernel
theorem d11_299 : decode method_5_code 299 = .ok (.lload 20, 2) := by decide +kernel
theorem d11_301 : decode method_5_code 301 = .ok (.ldc2_w 74, 3) := by decide +kernel
theorem d11_304 : decode method_5_code 304 = .ok (.lcmp, 1) := by decide +kernel
theorem d11_305 : decode method_5_code 305 = .ok (.ifCond .le 7, 3) := by decide +kernel
theorem d11_308 : decode method_5_code 308 = .ok (.iconst 1, 1) := by decide +kernel
theorem d11_309 : decode method_5_code 309 = .ok (.goto 4, 3) := by decide +kernel
theorem d11_312 : decode method_5_code 312 = .ok (.iconst 0, 1) := by decide +kernel
theorem d11_313 : decode method_5_code 313 = .ok (.istore 28, 2) := by decide +kernel
theorem d11_315 : decode method_5_code 315 = .ok (.iload 28, 2) := by decide +kernel
theorem d11_317 : decode method_5_code 317 = .ok (.ifCond .eq 7, 3) := by decide +kernel
theorem d11_320 : decode method_5_code 320 = .ok (.ldc2_w 9, 3) := by decide +kernel
theorem d11_323 : decode method_5_code 323 = .ok (.lreturn, 1) := by decide +kernel
theorem d11_324 : decode method_5_code 324 = .ok (.lload 24, 2) := by decide +kernel
theorem d11_326 : decode method_5_code 326 = .ok (.ldc2_w 76, 3) := by decide +kernel
theorem d11_329 : decode method_5_code 329 = .ok (.lmul, 1) := by decide +kernel
theorem d11_330 : decode method_5_code 330 = .ok (.lload 22, 2) := by decide +kernel
theorem d11_332 : decode method_5_code 332 = .ok (.ldc2_w 55, 3) := by decide +kernel
theorem d11_335 : decode method_5_code 335 = .ok (.lmul, 1) := by decide +kernel
theorem d11_336 : decode method_5_code 336 = .ok (.ladd, 1) := by decide +kernel
theorem d11_337 : decode method_5_code 337 = .ok (.lload 20, 2) := by decide +kernel
theorem d11_339 : decode method_5_code 339 = .ok (.ladd, 1) := by decide +kernel
theorem d11_340 : decode method_5_code 340 = .ok (.lreturn, 1) := by decide +kernel
set_option maxRecDepth 65536 in
set_option maxHeartbeats 40000000 in
theorem b11 {l : Launch} {Z : State} {a0 : Array Value} (hw : HW a0 Z) (l0 : Int64) (l1 : Int64) (l2 : Int64) (l3 : Int64) (x8 : Int64) {ee : Int} {n0 : Nat} {h : Heap} (Z0 : n0 ≤ h.size) (l0r : R9 l0) (l1r : R9 l1) (l2r : R9 l2) (l3r : R9 l3) (he : x8.toInt = ee) : OM l Z (⟨"com/example/planwright/planwright/service/testing/PercentageQuotientKeyPinLaw", "expected", "(JJJJJ)J"⟩ : MethodName) method_5_code 29 (some .long) ⟨1, 3, 25, 15⟩ n0 h #[(.long l0), (.long l1), (.long l2), (.long l3), (.long x8)] (fun v h' => ∃ z : Int64, v = some (.long z) ∧ Keep h h' [] ∧ z.toInt = ((SP (VV l0 l1 l2 l3) ee : Nat) : Int)) 3 25 := by
  refine OM.of_body (ls := #[.val (.long l0), .second, .val (.long l1), .second, .val (.long l2), .second, .val (.long l3), .second, .val (.long x8), .second, .unset, .unset, .unset, .unset, .unset, .unset, .unset, .unset, .unset, .unset, .unset, .unset, .unset, .unset, .unset, .unset, .unset, .unset, .unset]) (plainFor_of_name pn_1) (fun m => by first | (simp [entryFrame, mkF, argsToLocals, Value.category]; done) | rfl) ?_
  intro p e s m below meth c C
  refine OG.ow (OG.lloadN C d11_0 rfl (pc' := 1) rfl) ?_
  refine OG.ow (OG.lloadN C d11_1 rfl (pc' := 2) rfl) ?_
  refine OG.ow (OG.lor C d11_2 (pc' := 3) rfl) ?_
  refine OG.ow (OG.lload C d11_3 rfl (pc' := 5) rfl) ?_
  refine OG.ow (OG.lor C d11_5 (pc' := 6) rfl) ?_
  refine OG.ow (OG.lload C d11_6 rfl (pc' := 8) rfl) ?_
  refine OG.ow (OG.lor C d11_8 (pc' := 9) rfl) ?_
  refine OG.ow (OG.lconst C d11_9 (z := (0 : Int64)) rfl (pc' := 10) rfl) ?_
  refine OG.ow (OG.lcmp C d11_10 (pc' := 11) rfl) ?_
  refine OG.ow (OG.ite (α := Int32) (P := (((l0 ||| l1) ||| l2) ||| l3) = (0 : Int64)) (f := fun v => (mkF m 19 #[.val (.long l0), .second, .val (.long l1), .second, .val (.long l2), .second, .val (.long l3), .second, .val (.long x8), .second, .unset, .unset, .unset, .unset, .unset, .unset, .unset, .unset, .unset, .unset, .unset, .unset, .unset, .unset, .unset, .unset, .unset, .unset, .unset] [(.int v)])) (x := (1 : Int32)) (y := (0 : Int32)) (fun hc => ?_) (fun hc => ?_)) ?_
  · refine OG.trans (OG.ifNo C d11_11 (teqL hc).2 (pc' := 14) rfl) ?_
    refine OG.trans (OG.iconst C d11_14 (z := (1 : Int32)) rfl (pc' := 15) rfl) ?_
    refine OG.trans (OG.goto C d11_15 (by decide) (pc' := 19) (by decide)) ?_
    exact OG.refl
  · refine OG.trans (OG.ifYes C d11_11 (feqL hc).2 (by decide) (pc' := 18) (by decide)) ?_
    refine OG.trans (OG.iconst C d11_18 (z := (0 : Int32)) rfl (pc' := 19) rfl) ?_
    exact OG.refl
  refine OG.ow (OG.istore C d11_19 (ls' := #[.val (.long l0), .second, .val (.long l1), .second, .val (.long l2), .second, .val (.long l3), .second, .val (.long x8), .second, .val (.int (if (((l0 ||| l1) ||| l2) ||| l3) = (0 : Int64) then (1 : Int32) else (0 : Int32))), .unset, .unset, .unset, .unset, .unset, .unset, .unset, .unset, .unset, .unset, .unset, .unset, .unset, .unset, .unset, .unset, .unset, .unset]) rfl (pc' := 21) rfl) ?_
  refine OG.ow (OG.iload C d11_21 rfl (pc' := 23) rfl) ?_
  by_cases hc1 : (((l0 ||| l1) ||| l2) ||| l3) = (0 : Int64)
  · refine OG.ow (OG.ifYes C d11_23 (by rw [if_pos hc1]; rfl) (by decide) (pc' := 35) (by decide)) ?_
    refine OG.ow (OG.lconst C d11_35 (z := (0 : Int64)) rfl (pc' := 36) rfl) ?_
    refine OW.retL C d11_36 (by decide) (by decide) ?_
    refine ⟨_, rfl, (Keep.refl h []), ?_⟩
    exact ex_a l0r l1r l2r l3r he (Or.inl hc1)
  · refine OG.ow (OG.ifNo C d11_23 (by rw [if_neg hc1]; rfl) (pc' := 26) rfl) ?_
    refine OG.ow (OG.lload C d11_26 rfl (pc' := 28) rfl) ?_
    refine OG.ow (OG.ldcL C (w66 hw) d11_28 (pc' := 31) rfl) ?_
    refine OG.ow (OG.lcmp C d11_31 (pc' := 32) rfl) ?_
    by_cases hc2 : (-36 : Int64) < x8
    · refine OG.ow (OG.ifYes C d11_32 (tltL hc2).2.2.1 (by decide) (pc' := 37) (by decide)) ?_
      refine OG.ow (OG.lload C d11_37 rfl (pc' := 39) rfl) ?_
      refine OG.ow (OG.ldcL C (w69 hw) d11_39 (pc' := 42) rfl) ?_
      refine OG.ow (OG.lcmp C d11_42 (pc' := 43) rfl) ?_
      by_cases hc3 : x8 < (19 : Int64)
      · refine OG.ow (OG.ifYes C d11_43 (tltL hc3).1 (by decide) (pc' := 50) (by decide)) ?_
        refine OG.ow (OG.lload C d11_50 rfl (pc' := 52) rfl) ?_
        refine OG.ow (OG.ldcL C (w70 hw) d11_52 (pc' := 55) rfl) ?_
        refine OG.ow (OG.ladd C d11_55 (pc' := 56) rfl) ?_
        refine OG.ow (OG.lstore C d11_56 (ls' := #[.val (.long l0), .second, .val (.long l1), .second, .val (.long l2), .second, .val (.long l3), .second, .val (.long x8), .second, .val (.int (if (((l0 ||| l1) ||| l2) ||| l3) = (0 : Int64) then (1 : Int32) else (0 : Int32))), .val (.long (x8 + (36 : Int64))), .second, .unset, .unset, .unset, .unset, .unset, .unset, .unset, .unset, .unset, .unset, .unset, .unset, .unset, .unset, .unset, .unset]) rfl (pc' := 58) rfl) ?_
        refine OG.ow (OG.lload C d11_58 rfl (pc' := 60) rfl) ?_
        refine OG.ow (OG.ldcL C (w71 hw) d11_60 (pc' := 63) rfl) ?_
        refine OG.ow (OG.ldiv C d11_63 (by decide) (pc' := 64) rfl) ?_
        refine OG.ow (OG.l2i C d11_64 (pc' := 65) rfl) ?_
        refine OG.ow (OG.iconst C d11_65 (z := (4 : Int32)) rfl (pc' := 66) rfl) ?_
        refine OG.ow (OG.isub C d11_66 (pc' := 67) rfl) ?_
        refine OG.ow (OG.istore C d11_67 (ls' := #[.val (.long l0), .second, .val (.long l1), .second, .val (.long l2), .second, .val (.long l3), .second, .val (.long x8), .second, .val (.int (if (((l0 ||| l1) ||| l2) ||| l3) = (0 : Int64) then (1 : Int32) else (0 : Int32))), .val (.long (x8 + (36 : Int64))), .second, .val (.int (((x8 + (36 : Int64)) / (9 : Int64)).toInt32 - (4 : Int32))), .unset, .unset, .unset, .unset, .unset, .unset, .unset, .unset, .unset, .unset, .unset, .unset, .unset, .unset, .unset]) rfl (pc' := 69) rfl) ?_
        refine OG.ow (OG.lload C d11_69 rfl (pc' := 71) rfl) ?_
        refine OG.ow (OG.ldcL C (w71 hw) d11_71 (pc' := 74) rfl) ?_
        refine OG.ow (OG.lrem C d11_74 (by decide) (pc' := 75) rfl) ?_
        refine OG.ow (OG.l2i C d11_75 (pc' := 76) rfl) ?_
        refine OG.ow (OG.istore C d11_76 (ls' := #[.val (.long l0), .second, .val (.long l1), .second, .val (.long l2), .second, .val (.long l3), .second, .val (.long x8), .second, .val (.int (if (((l0 ||| l1) ||| l2) ||| l3) = (0 : Int64) then (1 : Int32) else (0 : Int32))), .val (.long (x8 + (36 : Int64))), .second, .val (.int (((x8 + (36 : Int64)) / (9 : Int64)).toInt32 - (4 : Int32))), .val (.int ((x8 + (36 : Int64)) % (9 : Int64)).toInt32), .unset, .unset, .unset, .unset, .unset, .unset, .unset, .unset, .unset, .unset, .unset, .unset, .unset, .unset]) rfl (pc' := 78) rfl) ?_
        generalize g13 : (((x8 + (36 : Int64)) / (9 : Int64)).toInt32 - (4 : Int32)) = x13
        generalize g14 : ((x8 + (36 : Int64)) % (9 : Int64)).toInt32 = x14
        obtain ⟨d, d1, d2, d3, d4⟩ := own_d he hc2 hc3 g13 g14
        refine OG.ow (OG.iload C d11_78 rfl (pc' := 80) rfl) ?_
        refine OW.callS C (w72 hw) (w73 hw) (w64 hw) (w74 hw) (by decide) (b12 hw x14 Z0 (own_i0 d1 d2)) d11_80 pd_5 rfl (argsL := [(.int x14)]) (rest := []) rfl rfl (W := 0) rfl (by decide) (by decide) (by decide) (by decide) (pc' := 83) rfl ?_
        intro vh4 h4 qh4
        obtain ⟨zm, rfl, Kh4, ezm⟩ := qh4
        refine OG.ow (OG.lstore C d11_83 (ls' := #[.val (.long l0), .second, .val (.long l1), .second, .val (.long l2), .second, .val (.long l3), .second, .val (.long x8), .second, .val (.int (if (((l0 ||| l1) ||| l2) ||| l3) = (0 : Int64) then (1 : Int32) else (0 : Int32))), .val (.long (x8 + (36 : Int64))), .second, .val (.int x13), .val (.int x14), .val (.long zm), .second, .unset, .unset, .unset, .unset, .unset, .unset, .unset, .unset, .unset, .unset, .unset, .unset]) rfl (pc' := 85) rfl) ?_
        refine OG.ow (OG.bipush C d11_85 (z := (9 : Int32)) (by decide) (pc' := 87) rfl) ?_
        refine OG.ow (OG.iload C d11_87 rfl (pc' := 89) rfl) ?_
        refine OG.ow (OG.isub C d11_89 (pc' := 90) rfl) ?_
        refine OW.callS C (w72 hw) (w73 hw) (w64 hw) (w74 hw) (by decide) (b12 hw ((9 : Int32) - x14) (Nat.le_trans Z0 Kh4.1) (own_i9 d1 d2)) d11_90 pd_5 rfl (argsL := [(.int ((9 : Int32) - x14))]) (rest := []) rfl rfl (W := 0) rfl (by decide) (by decide) (by decide) (by decide) (pc' := 93) rfl ?_
        intro vh5 h5 qh5
        obtain ⟨zn, rfl, Kh5, ezn⟩ := qh5
        refine OG.ow (OG.lstore C d11_93 (ls' := #[.val (.long l0), .second, .val (.long l1), .second, .val (.long l2), .second, .val (.long l3), .second, .val (.long x8), .second, .val (.int (if (((l0 ||| l1) ||| l2) ||| l3) = (0 : Int64) then (1 : Int32) else (0 : Int32))), .val (.long (x8 + (36 : Int64))), .second, .val (.int x13), .val (.int x14), .val (.long zm), .second, .val (.long zn), .second, .unset, .unset, .unset, .unset, .unset, .unset, .unset, .unset, .unset, .unset]) rfl (pc' := 95) rfl) ?_
        refine OG.ow (OG.iconst C d11_95 (z := (5 : Int32)) rfl (pc' := 96) rfl) ?_
        refine OW.newP C (ty := .long) rfl (w12 hw) (by decide) (cap := 5) (by decide) (by decide) d11_96 (by decide) (by decide) (pc' := 98) rfl ?_
        intro a6 h7 ga6 Eh7 Aa6
        refine OG.ow (OG.astore C d11_98 rfl (ls' := #[.val (.long l0), .second, .val (.long l1), .second, .val (.long l2), .second, .val (.long l3), .second, .val (.long x8), .second, .val (.int (if (((l0 ||| l1) ||| l2) ||| l3) = (0 : Int64) then (1 : Int32) else (0 : Int32))), .val (.long (x8 + (36 : Int64))), .second, .val (.int x13), .val (.int x14), .val (.long zm), .second, .val (.long zn), .second, .val (.ref a6), .unset, .unset, .unset, .unset, .unset, .unset, .unset, .unset, .unset]) rfl (pc' := 100) rfl) ?_
        refine OG.ow (OG.aload C d11_100 rfl rfl (pc' := 102) rfl) ?_
        refine OG.ow (OG.iconst C d11_102 (z := (0 : Int32)) rfl (pc' := 103) rfl) ?_
        refine OG.ow (OG.lloadN C d11_103 rfl (pc' := 104) rfl) ?_
        refine OG.ow (OG.lload C d11_104 rfl (pc' := 106) rfl) ?_
        refine OG.ow (OG.lrem C d11_106 (own_nz ezn) (pc' := 107) rfl) ?_
        refine OG.ow (OG.lload C d11_107 rfl (pc' := 109) rfl) ?_
        refine OG.ow (OG.lmul C d11_109 (pc' := 110) rfl) ?_
        refine OW.lastore C (show OA Z h7 a6 .long [(.long (0 : Int64)), (.long (0 : Int64)), (.long (0 : Int64)), (.long (0 : Int64)), (.long (0 : Int64))] from Aa6) (own_ib (n := 5) rfl (by decide)) (Nat.le_trans (Nat.le_trans (Nat.le_trans Z0 Kh4.1) Kh5.1) (Nat.le_of_eq ga6)) d11_110 (pc' := 111) rfl ?_
        intro h8 Wh8
        have G9 : OA Z h8 a6 .long [(.long ((l0 % zn) * zm)), (.long (0 : Int64)), (.long (0 : Int64)), (.long (0 : Int64)), (.long (0 : Int64))] := OA.same (show OA Z h7 a6 .long [(.long (0 : Int64)), (.long (0 : Int64)), (.long (0 : Int64)), (.long (0 : Int64)), (.long (0 : Int64))] from Aa6) Wh8
        refine OG.ow (OG.aload C d11_111 rfl rfl (pc' := 113) rfl) ?_
        refine OG.ow (OG.iconst C d11_113 (z := (1 : Int32)) rfl (pc' := 114) rfl) ?_
        refine OG.ow (OG.lloadN C d11_114 rfl (pc' := 115) rfl) ?_
        refine OG.ow (OG.lload C d11_115 rfl (pc' := 117) rfl) ?_
        refine OG.ow (OG.lrem C d11_117 (own_nz ezn) (pc' := 118) rfl) ?_
        refine OG.ow (OG.lload C d11_118 rfl (pc' := 120) rfl) ?_
        refine OG.ow (OG.lmul C d11_120 (pc' := 121) rfl) ?_
        refine OG.ow (OG.lloadN C d11_121 rfl (pc' := 122) rfl) ?_
        refine OG.ow (OG.lload C d11_122 rfl (pc' := 124) rfl) ?_
        refine OG.ow (OG.ldiv C d11_124 (own_nz ezn) (pc' := 125) rfl) ?_
        refine OG.ow (OG.ladd C d11_125 (pc' := 126) rfl) ?_
        refine OW.lastore C G9 (own_ib (n := 5) rfl (by decide)) (Nat.le_trans (Nat.le_trans (Nat.le_trans Z0 Kh4.1) Kh5.1) (Nat.le_of_eq ga6)) d11_126 (pc' := 127) rfl ?_
        intro h10 Wh10
        have G11 : OA Z h10 a6 .long [(.long ((l0 % zn) * zm)), (.long (((l1 % zn) * zm) + (l0 / zn))), (.long (0 : Int64)), (.long (0 : Int64)), (.long (0 : Int64))] := OA.same G9 Wh10
        refine OG.ow (OG.aload C d11_127 rfl rfl (pc' := 129) rfl) ?_
        refine OG.ow (OG.iconst C d11_129 (z := (2 : Int32)) rfl (pc' := 130) rfl) ?_
        refine OG.ow (OG.lload C d11_130 rfl (pc' := 132) rfl) ?_
        refine OG.ow (OG.lload C d11_132 rfl (pc' := 134) rfl) ?_
        refine OG.ow (OG.lrem C d11_134 (own_nz ezn) (pc' := 135) rfl) ?_
        refine OG.ow (OG.lload C d11_135 rfl (pc' := 137) rfl) ?_
        refine OG.ow (OG.lmul C d11_137 (pc' := 138) rfl) ?_
        refine OG.ow (OG.lloadN C d11_138 rfl (pc' := 139) rfl) ?_
        refine OG.ow (OG.lload C d11_139 rfl (pc' := 141) rfl) ?_
        refine OG.ow (OG.ldiv C d11_141 (own_nz ezn) (pc' := 142) rfl) ?_
        refine OG.ow (OG.ladd C d11_142 (pc' := 143) rfl) ?_
        refine OW.lastore C G11 (own_ib (n := 5) rfl (by decide)) (Nat.le_trans (Nat.le_trans (Nat.le_trans Z0 Kh4.1) Kh5.1) (Nat.le_of_eq ga6)) d11_143 (pc' := 144) rfl ?_
        intro h12 Wh12
        have G13 : OA Z h12 a6 .long [(.long ((l0 % zn) * zm)), (.long (((l1 % zn) * zm) + (l0 / zn))), (.long (((l2 % zn) * zm) + (l1 / zn))), (.long (0 : Int64)), (.long (0 : Int64))] := OA.same G11 Wh12
        refine OG.ow (OG.aload C d11_144 rfl rfl (pc' := 146) rfl) ?_
        refine OG.ow (OG.iconst C d11_146 (z := (3 : Int32)) rfl (pc' := 147) rfl) ?_
        refine OG.ow (OG.lload C d11_147 rfl (pc' := 149) rfl) ?_
        refine OG.ow (OG.lload C d11_149 rfl (pc' := 151) rfl) ?_
        refine OG.ow (OG.lrem C d11_151 (own_nz ezn) (pc' := 152) rfl) ?_
        refine OG.ow (OG.lload C d11_152 rfl (pc' := 154) rfl) ?_
        refine OG.ow (OG.lmul C d11_154 (pc' := 155) rfl) ?_
        refine OG.ow (OG.lload C d11_155 rfl (pc' := 157) rfl) ?_
        refine OG.ow (OG.lload C d11_157 rfl (pc' := 159) rfl) ?_
        refine OG.ow (OG.ldiv C d11_159 (own_nz ezn) (pc' := 160) rfl) ?_
        refine OG.ow (OG.ladd C d11_160 (pc' := 161) rfl) ?_
        refine OW.lastore C G13 (own_ib (n := 5) rfl (by decide)) (Nat.le_trans (Nat.le_trans (Nat.le_trans Z0 Kh4.1) Kh5.1) (Nat.le_of_eq ga6)) d11_161 (pc' := 162) rfl ?_
        intro h14 Wh14
        have G15 : OA Z h14 a6 .long [(.long ((l0 % zn) * zm)), (.long (((l1 % zn) * zm) + (l0 / zn))), (.long (((l2 % zn) * zm) + (l1 / zn))), (.long (((l3 % zn) * zm) + (l2 / zn))), (.long (0 : Int64))] := OA.same G13 Wh14
        refine OG.ow (OG.aload C d11_162 rfl rfl (pc' := 164) rfl) ?_
        refine OG.ow (OG.iconst C d11_164 (z := (4 : Int32)) rfl (pc' := 165) rfl) ?_
        refine OG.ow (OG.lload C d11_165 rfl (pc' := 167) rfl) ?_
        refine OG.ow (OG.lload C d11_167 rfl (pc' := 169) rfl) ?_
        refine OG.ow (OG.ldiv C d11_169 (own_nz ezn) (pc' := 170) rfl) ?_
        refine OW.lastore C G15 (own_ib (n := 5) rfl (by decide)) (Nat.le_trans (Nat.le_trans (Nat.le_trans Z0 Kh4.1) Kh5.1) (Nat.le_of_eq ga6)) d11_170 (pc' := 171) rfl ?_
        intro h16 Wh16
        have G17 : OA Z h16 a6 .long [(.long ((l0 % zn) * zm)), (.long (((l1 % zn) * zm) + (l0 / zn))), (.long (((l2 % zn) * zm) + (l1 / zn))), (.long (((l3 % zn) * zm) + (l2 / zn))), (.long (l3 / zn))] := OA.same G15 Wh16
        have GG := G17
        generalize gq0 : ((l0 % zn) * zm) = q0 at GG
        generalize gq1 : (((l1 % zn) * zm) + (l0 / zn)) = q1 at GG
        generalize gq2 : (((l2 % zn) * zm) + (l1 / zn)) = q2 at GG
        generalize gq3 : (((l3 % zn) * zm) + (l2 / zn)) = q3 at GG
        generalize gq4 : (l3 / zn) = q4 at GG
        obtain ⟨Q0, Q1, Q2, Q3, Q4, f0, f1, f2, f3, f4, b0, b1, b2, b3, b4, hW⟩ := own_q l0r l1r l2r l3r d1 d2 ezm ezn gq0 gq1 gq2 gq3 gq4
        obtain ⟨R0, R1, R2, OV, m0, m1, m2, mb, mo, mS⟩ := ex_at q0 q1 q2 q3 q4 Q0 Q1 Q2 Q3 Q4 f0 f1 f2 f3 f4 b0 b1 b2 b3 b4 _ d ee hW d2 x13 d3 d4
        refine OG.ow (OG.aload C d11_171 rfl rfl (pc' := 173) rfl) ?_
        refine OG.ow (OG.iload C d11_173 rfl (pc' := 175) rfl) ?_
        refine OG.ow (OG.ineg C d11_175 (pc' := 176) rfl) ?_
        refine OG.ow (OG.callS C (w84 hw) (w85 hw) (w64 hw) (w86 hw) (by decide) (b13 hw a6 (-x13) (Nat.le_trans (Nat.le_trans (Nat.le_trans (Nat.le_trans (Nat.le_trans (Nat.le_trans (Nat.le_trans (Nat.le_trans Z0 Kh4.1) Kh5.1) Eh7.1) (Nat.le_of_eq Wh8.size.symm)) (Nat.le_of_eq Wh10.size.symm)) (Nat.le_of_eq Wh12.size.symm)) (Nat.le_of_eq Wh14.size.symm)) (Nat.le_of_eq Wh16.size.symm)) GG) d11_176 pd_6 rfl (argsL := [(.ref a6), (.int (-x13))]) (rest := []) rfl rfl (W := 0) rfl (by decide) (by decide) (pc' := 179) rfl) ?_
        refine OG.ow (OG.lstore C d11_179 (ls' := #[.val (.long l0), .second, .val (.long l1), .second, .val (.long l2), .second, .val (.long l3), .second, .val (.long x8), .second, .val (.int (if (((l0 ||| l1) ||| l2) ||| l3) = (0 : Int64) then (1 : Int32) else (0 : Int32))), .val (.long (x8 + (36 : Int64))), .second, .val (.int x13), .val (.int x14), .val (.long zm), .second, .val (.long zn), .second, .val (.ref a6), .val (.long (ATF q0 q1 q2 q3 q4 (-x13))), .second, .unset, .unset, .unset, .unset, .unset, .unset, .unset]) rfl (pc' := 181) rfl) ?_
        refine OG.ow (OG.aload C d11_181 rfl rfl (pc' := 183) rfl) ?_
        refine OG.ow (OG.iconst C d11_183 (z := (1 : Int32)) rfl (pc' := 184) rfl) ?_
        refine OG.ow (OG.iload C d11_184 rfl (pc' := 186) rfl) ?_
        refine OG.ow (OG.isub C d11_186 (pc' := 187) rfl) ?_
        refine OG.ow (OG.callS C (w84 hw) (w85 hw) (w64 hw) (w86 hw) (by decide) (b13 hw a6 ((1 : Int32) - x13) (Nat.le_trans (Nat.le_trans (Nat.le_trans (Nat.le_trans (Nat.le_trans (Nat.le_trans (Nat.le_trans (Nat.le_trans Z0 Kh4.1) Kh5.1) Eh7.1) (Nat.le_of_eq Wh8.size.symm)) (Nat.le_of_eq Wh10.size.symm)) (Nat.le_of_eq Wh12.size.symm)) (Nat.le_of_eq Wh14.size.symm)) (Nat.le_of_eq Wh16.size.symm)) GG) d11_187 pd_6 rfl (argsL := [(.ref a6), (.int ((1 : Int32) - x13))]) (rest := []) rfl rfl (W := 0) rfl (by decide) (by decide) (pc' := 190) rfl) ?_
        refine OG.ow (OG.lstore C d11_190 (ls' := #[.val (.long l0), .second, .val (.long l1), .second, .val (.long l2), .second, .val (.long l3), .second, .val (.long x8), .second, .val (.int (if (((l0 ||| l1) ||| l2) ||| l3) = (0 : Int64) then (1 : Int32) else (0 : Int32))), .val (.long (x8 + (36 : Int64))), .second, .val (.int x13), .val (.int x14), .val (.long zm), .second, .val (.long zn), .second, .val (.ref a6), .val (.long (ATF q0 q1 q2 q3 q4 (-x13))), .second, .val (.long (ATF q0 q1 q2 q3 q4 ((1 : Int32) - x13))), .second, .unset, .unset, .unset, .unset, .unset]) rfl (pc' := 192) rfl) ?_
        refine OG.ow (OG.aload C d11_192 rfl rfl (pc' := 194) rfl) ?_
        refine OG.ow (OG.iconst C d11_194 (z := (2 : Int32)) rfl (pc' := 195) rfl) ?_
        refine OG.ow (OG.iload C d11_195 rfl (pc' := 197) rfl) ?_
        refine OG.ow (OG.isub C d11_197 (pc' := 198) rfl) ?_
        refine OG.ow (OG.callS C (w84 hw) (w85 hw) (w64 hw) (w86 hw) (by decide) (b13 hw a6 ((2 : Int32) - x13) (Nat.le_trans (Nat.le_trans (Nat.le_trans (Nat.le_trans (Nat.le_trans (Nat.le_trans (Nat.le_trans (Nat.le_trans Z0 Kh4.1) Kh5.1) Eh7.1) (Nat.le_of_eq Wh8.size.symm)) (Nat.le_of_eq Wh10.size.symm)) (Nat.le_of_eq Wh12.size.symm)) (Nat.le_of_eq Wh14.size.symm)) (Nat.le_of_eq Wh16.size.symm)) GG) d11_198 pd_6 rfl (argsL := [(.ref a6), (.int ((2 : Int32) - x13))]) (rest := []) rfl rfl (W := 0) rfl (by decide) (by decide) (pc' := 201) rfl) ?_
        refine OG.ow (OG.lstore C d11_201 (ls' := #[.val (.long l0), .second, .val (.long l1), .second, .val (.long l2), .second, .val (.long l3), .second, .val (.long x8), .second, .val (.int (if (((l0 ||| l1) ||| l2) ||| l3) = (0 : Int64) then (1 : Int32) else (0 : Int32))), .val (.long (x8 + (36 : Int64))), .second, .val (.int x13), .val (.int x14), .val (.long zm), .second, .val (.long zn), .second, .val (.ref a6), .val (.long (ATF q0 q1 q2 q3 q4 (-x13))), .second, .val (.long (ATF q0 q1 q2 q3 q4 ((1 : Int32) - x13))), .second, .val (.long (ATF q0 q1 q2 q3 q4 ((2 : Int32) - x13))), .second, .unset, .unset, .unset]) rfl (pc' := 203) rfl) ?_
        refine OG.ow (OG.aload C d11_203 rfl rfl (pc' := 205) rfl) ?_
        refine OG.ow (OG.iconst C d11_205 (z := (3 : Int32)) rfl (pc' := 206) rfl) ?_
        refine OG.ow (OG.iload C d11_206 rfl (pc' := 208) rfl) ?_
        refine OG.ow (OG.isub C d11_208 (pc' := 209) rfl) ?_
        refine OG.ow (OG.callS C (w84 hw) (w85 hw) (w64 hw) (w86 hw) (by decide) (b13 hw a6 ((3 : Int32) - x13) (Nat.le_trans (Nat.le_trans (Nat.le_trans (Nat.le_trans (Nat.le_trans (Nat.le_trans (Nat.le_trans (Nat.le_trans Z0 Kh4.1) Kh5.1) Eh7.1) (Nat.le_of_eq Wh8.size.symm)) (Nat.le_of_eq Wh10.size.symm)) (Nat.le_of_eq Wh12.size.symm)) (Nat.le_of_eq Wh14.size.symm)) (Nat.le_of_eq Wh16.size.symm)) GG) d11_209 pd_6 rfl (argsL := [(.ref a6), (.int ((3 : Int32) - x13))]) (rest := []) rfl rfl (W := 0) rfl (by decide) (by decide) (pc' := 212) rfl) ?_
        refine OG.ow (OG.aload C d11_212 rfl rfl (pc' := 214) rfl) ?_
        refine OG.ow (OG.iconst C d11_214 (z := (4 : Int32)) rfl (pc' := 215) rfl) ?_
        refine OG.ow (OG.iload C d11_215 rfl (pc' := 217) rfl) ?_
        refine OG.ow (OG.isub C d11_217 (pc' := 218) rfl) ?_
        refine OG.ow (OG.callS C (w84 hw) (w85 hw) (w64 hw) (w86 hw) (by decide) (b13 hw a6 ((4 : Int32) - x13) (Nat.le_trans (Nat.le_trans (Nat.le_trans (Nat.le_trans (Nat.le_trans (Nat.le_trans (Nat.le_trans (Nat.le_trans Z0 Kh4.1) Kh5.1) Eh7.1) (Nat.le_of_eq Wh8.size.symm)) (Nat.le_of_eq Wh10.size.symm)) (Nat.le_of_eq Wh12.size.symm)) (Nat.le_of_eq Wh14.size.symm)) (Nat.le_of_eq Wh16.size.symm)) GG) d11_218 pd_6 rfl (argsL := [(.ref a6), (.int ((4 : Int32) - x13))]) (rest := [(.long (ATF q0 q1 q2 q3 q4 ((3 : Int32) - x13)))]) rfl rfl (W := 2) rfl (by decide) (by decide) (pc' := 221) rfl) ?_
        refine OG.ow (OG.lor C d11_221 (pc' := 222) rfl) ?_
        refine OG.ow (OG.aload C d11_222 rfl rfl (pc' := 224) rfl) ?_
        refine OG.ow (OG.iconst C d11_224 (z := (5 : Int32)) rfl (pc' := 225) rfl) ?_
        refine OG.ow (OG.iload C d11_225 rfl (pc' := 227) rfl) ?_
        refine OG.ow (OG.isub C d11_227 (pc' := 228) rfl) ?_
        refine OG.ow (OG.callS C (w84 hw) (w85 hw) (w64 hw) (w86 hw) (by decide) (b13 hw a6 ((5 : Int32) - x13) (Nat.le_trans (Nat.le_trans (Nat.le_trans (Nat.le_trans (Nat.le_trans (Nat.le_trans (Nat.le_trans (Nat.le_trans Z0 Kh4.1) Kh5.1) Eh7.1) (Nat.le_of_eq Wh8.size.symm)) (Nat.le_of_eq Wh10.size.symm)) (Nat.le_of_eq Wh12.size.symm)) (Nat.le_of_eq Wh14.size.symm)) (Nat.le_of_eq Wh16.size.symm)) GG) d11_228 pd_6 rfl (argsL := [(.ref a6), (.int ((5 : Int32) - x13))]) (rest := [(.long ((ATF q0 q1 q2 q3 q4 ((3 : Int32) - x13)) ||| (ATF q0 q1 q2 q3 q4 ((4 : Int32) - x13))))]) rfl rfl (W := 2) rfl (by decide) (by decide) (pc' := 231) rfl) ?_
        refine OG.ow (OG.lor C d11_231 (pc' := 232) rfl) ?_
        refine OG.ow (OG.aload C d11_232 rfl rfl (pc' := 234) rfl) ?_
        refine OG.ow (OG.bipush C d11_234 (z := (6 : Int32)) (by decide) (pc' := 236) rfl) ?_
        refine OG.ow (OG.iload C d11_236 rfl (pc' := 238) rfl) ?_
        refine OG.ow (OG.isub C d11_238 (pc' := 239) rfl) ?_
        refine OG.ow (OG.callS C (w84 hw) (w85 hw) (w64 hw) (w86 hw) (by decide) (b13 hw a6 ((6 : Int32) - x13) (Nat.le_trans (Nat.le_trans (Nat.le_trans (Nat.le_trans (Nat.le_trans (Nat.le_trans (Nat.le_trans (Nat.le_trans Z0 Kh4.1) Kh5.1) Eh7.1) (Nat.le_of_eq Wh8.size.symm)) (Nat.le_of_eq Wh10.size.symm)) (Nat.le_of_eq Wh12.size.symm)) (Nat.le_of_eq Wh14.size.symm)) (Nat.le_of_eq Wh16.size.symm)) GG) d11_239 pd_6 rfl (argsL := [(.ref a6), (.int ((6 : Int32) - x13))]) (rest := [(.long (((ATF q0 q1 q2 q3 q4 ((3 : Int32) - x13)) ||| (ATF q0 q1 q2 q3 q4 ((4 : Int32) - x13))) ||| (ATF q0 q1 q2 q3 q4 ((5 : Int32) - x13))))]) rfl rfl (W := 2) rfl (by decide) (by decide) (pc' := 242) rfl) ?_
        refine OG.ow (OG.lor C d11_242 (pc' := 243) rfl) ?_
        refine OG.ow (OG.aload C d11_243 rfl rfl (pc' := 245) rfl) ?_
        refine OG.ow (OG.bipush C d11_245 (z := (7 : Int32)) (by decide) (pc' := 247) rfl) ?_
        refine OG.ow (OG.iload C d11_247 rfl (pc' := 249) rfl) ?_
        refine OG.ow (OG.isub C d11_249 (pc' := 250) rfl) ?_
        refine OG.ow (OG.callS C (w84 hw) (w85 hw) (w64 hw) (w86 hw) (by decide) (b13 hw a6 ((7 : Int32) - x13) (Nat.le_trans (Nat.le_trans (Nat.le_trans (Nat.le_trans (Nat.le_trans (Nat.le_trans (Nat.le_trans (Nat.le_trans Z0 Kh4.1) Kh5.1) Eh7.1) (Nat.le_of_eq Wh8.size.symm)) (Nat.le_of_eq Wh10.size.symm)) (Nat.le_of_eq Wh12.size.symm)) (Nat.le_of_eq Wh14.size.symm)) (Nat.le_of_eq Wh16.size.symm)) GG) d11_250 pd_6 rfl (argsL := [(.ref a6), (.int ((7 : Int32) - x13))]) (rest := [(.long ((((ATF q0 q1 q2 q3 q4 ((3 : Int32) - x13)) ||| (ATF q0 q1 q2 q3 q4 ((4 : Int32) - x13))) ||| (ATF q0 q1 q2 q3 q4 ((5 : Int32) - x13))) ||| (ATF q0 q1 q2 q3 q4 ((6 : Int32) - x13))))]) rfl rfl (W := 2) rfl (by decide) (by decide) (pc' := 253) rfl) ?_
        refine OG.ow (OG.lor C d11_253 (pc' := 254) rfl) ?_
        refine OG.ow (OG.lstore C d11_254 (ls' := #[.val (.long l0), .second, .val (.long l1), .second, .val (.long l2), .second, .val (.long l3), .second, .val (.long x8), .second, .val (.int (if (((l0 ||| l1) ||| l2) ||| l3) = (0 : Int64) then (1 : Int32) else (0 : Int32))), .val (.long (x8 + (36 : Int64))), .second, .val (.int x13), .val (.int x14), .val (.long zm), .second, .val (.long zn), .second, .val (.ref a6), .val (.long (ATF q0 q1 q2 q3 q4 (-x13))), .second, .val (.long (ATF q0 q1 q2 q3 q4 ((1 : Int32) - x13))), .second, .val (.long (ATF q0 q1 q2 q3 q4 ((2 : Int32) - x13))), .second, .val (.long (((((ATF q0 q1 q2 q3 q4 ((3 : Int32) - x13)) ||| (ATF q0 q1 q2 q3 q4 ((4 : Int32) - x13))) ||| (ATF q0 q1 q2 q3 q4 ((5 : Int32) - x13))) ||| (ATF q0 q1 q2 q3 q4 ((6 : Int32) - x13))) ||| (ATF q0 q1 q2 q3 q4 ((7 : Int32) - x13)))), .second, .unset]) rfl (pc' := 256) rfl) ?_
        refine OG.ow (OG.lload C d11_256 rfl (pc' := 258) rfl) ?_
        refine OG.ow (OG.lconst C d11_258 (z := (0 : Int64)) rfl (pc' := 259) rfl) ?_
        refine OG.ow (OG.lcmp C d11_259 (pc' := 260) rfl) ?_
        refine OG.ow (OG.ite (α := Int32) (P := (((((ATF q0 q1 q2 q3 q4 ((3 : Int32) - x13)) ||| (ATF q0 q1 q2 q3 q4 ((4 : Int32) - x13))) ||| (ATF q0 q1 q2 q3 q4 ((5 : Int32) - x13))) ||| (ATF q0 q1 q2 q3 q4 ((6 : Int32) - x13))) ||| (ATF q0 q1 q2 q3 q4 ((7 : Int32) - x13))) = (0 : Int64)) (f := fun v => (mkF m 313 #[.val (.long l0), .second, .val (.long l1), .second, .val (.long l2), .second, .val (.long l3), .second, .val (.long x8), .second, .val (.int (if (((l0 ||| l1) ||| l2) ||| l3) = (0 : Int64) then (1 : Int32) else (0 : Int32))), .val (.long (x8 + (36 : Int64))), .second, .val (.int x13), .val (.int x14), .val (.long zm), .second, .val (.long zn), .second, .val (.ref a6), .val (.long (ATF q0 q1 q2 q3 q4 (-x13))), .second, .val (.long (ATF q0 q1 q2 q3 q4 ((1 : Int32) - x13))), .second, .val (.long (ATF q0 q1 q2 q3 q4 ((2 : Int32) - x13))), .second, .val (.long (((((ATF q0 q1 q2 q3 q4 ((3 : Int32) - x13)) ||| (ATF q0 q1 q2 q3 q4 ((4 : Int32) - x13))) ||| (ATF q0 q1 q2 q3 q4 ((5 : Int32) - x13))) ||| (ATF q0 q1 q2 q3 q4 ((6 : Int32) - x13))) ||| (ATF q0 q1 q2 q3 q4 ((7 : Int32) - x13)))), .second, .unset] [(.int v)])) (x := (if (9 : Int64) < (ATF q0 q1 q2 q3 q4 ((2 : Int32) - x13)) then (1 : Int32) else (if (ATF q0 q1 q2 q3 q4 ((2 : Int32) - x13)) = (9 : Int64) then (if (223372036 : Int64) < (ATF q0 q1 q2 q3 q4 ((1 : Int32) - x13)) then (1 : Int32) else (if (ATF q0 q1 q2 q3 q4 ((1 : Int32) - x13)) = (223372036 : Int64) then (if (854775807 : Int64) < (ATF q0 q1 q2 q3 q4 (-x13)) then (1 : Int32) else (0 : Int32)) else (0 : Int32))) else (0 : Int32)))) (y := (1 : Int32)) (fun hc => ?_) (fun hc => ?_)) ?_
        · refine OG.trans (OG.ifNo C d11_260 (teqL hc).2 (pc' := 263) rfl) ?_
          refine OG.trans (OG.lload C d11_263 rfl (pc' := 265) rfl) ?_
          refine OG.trans (OG.ldcL C (w71 hw) d11_265 (pc' := 268) rfl) ?_
          refine OG.trans (OG.lcmp C d11_268 (pc' := 269) rfl) ?_
          refine OG.trans (OG.ite (α := Int32) (P := (9 : Int64) < (ATF q0 q1 q2 q3 q4 ((2 : Int32) - x13))) (f := fun v => (mkF m 313 #[.val (.long l0), .second, .val (.long l1), .second, .val (.long l2), .second, .val (.long l3), .second, .val (.long x8), .second, .val (.int (if (((l0 ||| l1) ||| l2) ||| l3) = (0 : Int64) then (1 : Int32) else (0 : Int32))), .val (.long (x8 + (36 : Int64))), .second, .val (.int x13), .val (.int x14), .val (.long zm), .second, .val (.long zn), .second, .val (.ref a6), .val (.long (ATF q0 q1 q2 q3 q4 (-x13))), .second, .val (.long (ATF q0 q1 q2 q3 q4 ((1 : Int32) - x13))), .second, .val (.long (ATF q0 q1 q2 q3 q4 ((2 : Int32) - x13))), .second, .val (.long (((((ATF q0 q1 q2 q3 q4 ((3 : Int32) - x13)) ||| (ATF q0 q1 q2 q3 q4 ((4 : Int32) - x13))) ||| (ATF q0 q1 q2 q3 q4 ((5 : Int32) - x13))) ||| (ATF q0 q1 q2 q3 q4 ((6 : Int32) - x13))) ||| (ATF q0 q1 q2 q3 q4 ((7 : Int32) - x13)))), .second, .unset] [(.int v)])) (x := (1 : Int32)) (y := (if (ATF q0 q1 q2 q3 q4 ((2 : Int32) - x13)) = (9 : Int64) then (if (223372036 : Int64) < (ATF q0 q1 q2 q3 q4 ((1 : Int32) - x13)) then (1 : Int32) else (if (ATF q0 q1 q2 q3 q4 ((1 : Int32) - x13)) = (223372036 : Int64) then (if (854775807 : Int64) < (ATF q0 q1 q2 q3 q4 (-x13)) then (1 : Int32) else (0 : Int32)) else (0 : Int32))) else (0 : Int32))) (fun hc => ?_) (fun hc => ?_)) ?_
          · refine OG.trans (OG.ifYes C d11_269 (tltL hc).2.2.1 (by decide) (pc' := 308) (by decide)) ?_
            refine OG.trans (OG.iconst C d11_308 (z := (1 : Int32)) rfl (pc' := 309) rfl) ?_
            refine OG.trans (OG.goto C d11_309 (by decide) (pc' := 313) (by decide)) ?_
            exact OG.refl
          · refine OG.trans (OG.ifNo C d11_269 (fltL hc).2.2.1 (pc' := 272) rfl) ?_
            refine OG.trans (OG.lload C d11_272 rfl (pc' := 274) rfl) ?_
            refine OG.trans (OG.ldcL C (w71 hw) d11_274 (pc' := 277) rfl) ?_
            refine OG.trans (OG.lcmp C d11_277 (pc' := 278) rfl) ?_
            refine OG.trans (OG.ite (α := Int32) (P := (ATF q0 q1 q2 q3 q4 ((2 : Int32) - x13)) = (9 : Int64)) (f := fun v => (mkF m 313 #[.val (.long l0), .second, .val (.long l1), .second, .val (.long l2), .second, .val (.long l3), .second, .val (.long x8), .second, .val (.int (if (((l0 ||| l1) ||| l2) ||| l3) = (0 : Int64) then (1 : Int32) else (0 : Int32))), .val (.long (x8 + (36 : Int64))), .second, .val (.int x13), .val (.int x14), .val (.long zm), .second, .val (.long zn), .second, .val (.ref a6), .val (.long (ATF q0 q1 q2 q3 q4 (-x13))), .second, .val (.long (ATF q0 q1 q2 q3 q4 ((1 : Int32) - x13))), .second, .val (.long (ATF q0 q1 q2 q3 q4 ((2 : Int32) - x13))), .second, .val (.long (((((ATF q0 q1 q2 q3 q4 ((3 : Int32) - x13)) ||| (ATF q0 q1 q2 q3 q4 ((4 : Int32) - x13))) ||| (ATF q0 q1 q2 q3 q4 ((5 : Int32) - x13))) ||| (ATF q0 q1 q2 q3 q4 ((6 : Int32) - x13))) ||| (ATF q0 q1 q2 q3 q4 ((7 : Int32) - x13)))), .second, .unset] [(.int v)])) (x := (if (223372036 : Int64) < (ATF q0 q1 q2 q3 q4 ((1 : Int32) - x13)) then (1 : Int32) else (if (ATF q0 q1 q2 q3 q4 ((1 : Int32) - x13)) = (223372036 : Int64) then (if (854775807 : Int64) < (ATF q0 q1 q2 q3 q4 (-x13)) then (1 : Int32) else (0 : Int32)) else (0 : Int32)))) (y := (0 : Int32)) (fun hc => ?_) (fun hc => ?_)) ?_
            · refine OG.trans (OG.ifNo C d11_278 (teqL hc).2 (pc' := 281) rfl) ?_
              refine OG.trans (OG.lload C d11_281 rfl (pc' := 283) rfl) ?_
              refine OG.trans (OG.ldcL C (w95 hw) d11_283 (pc' := 286) rfl) ?_
              refine OG.trans (OG.lcmp C d11_286 (pc' := 287) rfl) ?_
              refine OG.trans (OG.ite (α := Int32) (P := (223372036 : Int64) < (ATF q0 q1 q2 q3 q4 ((1 : Int32) - x13))) (f := fun v => (mkF m 313 #[.val (.long l0), .second, .val (.long l1), .second, .val (.long l2), .second, .val (.long l3), .second, .val (.long x8), .second, .val (.int (if (((l0 ||| l1) ||| l2) ||| l3) = (0 : Int64) then (1 : Int32) else (0 : Int32))), .val (.long (x8 + (36 : Int64))), .second, .val (.int x13), .val (.int x14), .val (.long zm), .second, .val (.long zn), .second, .val (.ref a6), .val (.long (ATF q0 q1 q2 q3 q4 (-x13))), .second, .val (.long (ATF q0 q1 q2 q3 q4 ((1 : Int32) - x13))), .second, .val (.long (ATF q0 q1 q2 q3 q4 ((2 : Int32) - x13))), .second, .val (.long (((((ATF q0 q1 q2 q3 q4 ((3 : Int32) - x13)) ||| (ATF q0 q1 q2 q3 q4 ((4 : Int32) - x13))) ||| (ATF q0 q1 q2 q3 q4 ((5 : Int32) - x13))) ||| (ATF q0 q1 q2 q3 q4 ((6 : Int32) - x13))) ||| (ATF q0 q1 q2 q3 q4 ((7 : Int32) - x13)))), .second, .unset] [(.int v)])) (x := (1 : Int32)) (y := (if (ATF q0 q1 q2 q3 q4 ((1 : Int32) - x13)) = (223372036 : Int64) then (if (854775807 : Int64) < (ATF q0 q1 q2 q3 q4 (-x13)) then (1 : Int32) else (0 : Int32)) else (0 : Int32))) (fun hc => ?_) (fun hc => ?_)) ?_
              · refine OG.trans (OG.ifYes C d11_287 (tltL hc).2.2.1 (by decide) (pc' := 308) (by decide)) ?_
                refine OG.trans (OG.iconst C d11_308 (z := (1 : Int32)) rfl (pc' := 309) rfl) ?_
                refine OG.trans (OG.goto C d11_309 (by decide) (pc' := 313) (by decide)) ?_
                exact OG.refl
              · refine OG.trans (OG.ifNo C d11_287 (fltL hc).2.2.1 (pc' := 290) rfl) ?_
                refine OG.trans (OG.lload C d11_290 rfl (pc' := 292) rfl) ?_
                refine OG.trans (OG.ldcL C (w95 hw) d11_292 (pc' := 295) rfl) ?_
                refine OG.trans (OG.lcmp C d11_295 (pc' := 296) rfl) ?_
                refine OG.trans (OG.ite (α := Int32) (P := (ATF q0 q1 q2 q3 q4 ((1 : Int32) - x13)) = (223372036 : Int64)) (f := fun v => (mkF m 313 #[.val (.long l0), .second, .val (.long l1), .second, .val (.long l2), .second, .val (.long l3), .second, .val (.long x8), .second, .val (.int (if (((l0 ||| l1) ||| l2) ||| l3) = (0 : Int64) then (1 : Int32) else (0 : Int32))), .val (.long (x8 + (36 : Int64))), .second, .val (.int x13), .val (.int x14), .val (.long zm), .second, .val (.long zn), .second, .val (.ref a6), .val (.long (ATF q0 q1 q2 q3 q4 (-x13))), .second, .val (.long (ATF q0 q1 q2 q3 q4 ((1 : Int32) - x13))), .second, .val (.long (ATF q0 q1 q2 q3 q4 ((2 : Int32) - x13))), .second, .val (.long (((((ATF q0 q1 q2 q3 q4 ((3 : Int32) - x13)) ||| (ATF q0 q1 q2 q3 q4 ((4 : Int32) - x13))) ||| (ATF q0 q1 q2 q3 q4 ((5 : Int32) - x13))) ||| (ATF q0 q1 q2 q3 q4 ((6 : Int32) - x13))) ||| (ATF q0 q1 q2 q3 q4 ((7 : Int32) - x13)))), .second, .unset] [(.int v)])) (x := (if (854775807 : Int64) < (ATF q0 q1 q2 q3 q4 (-x13)) then (1 : Int32) else (0 : Int32))) (y := (0 : Int32)) (fun hc => ?_) (fun hc => ?_)) ?_
                · refine OG.trans (OG.ifNo C d11_296 (teqL hc).2 (pc' := 299) rfl) ?_
                  refine OG.trans (OG.lload C d11_299 rfl (pc' := 301) rfl) ?_
                  refine OG.trans (OG.ldcL C (w96 hw) d11_301 (pc' := 304) rfl) ?_
                  refine OG.trans (OG.lcmp C d11_304 (pc' := 305) rfl) ?_
                  refine OG.trans (OG.ite (α := Int32) (P := (854775807 : Int64) < (ATF q0 q1 q2 q3 q4 (-x13))) (f := fun v => (mkF m 313 #[.val (.long l0), .second, .val (.long l1), .second, .val (.long l2), .second, .val (.long l3), .second, .val (.long x8), .second, .val (.int (if (((l0 ||| l1) ||| l2) ||| l3) = (0 : Int64) then (1 : Int32) else (0 : Int32))), .val (.long (x8 + (36 : Int64))), .second, .val (.int x13), .val (.int x14), .val (.long zm), .second, .val (.long zn), .second, .val (.ref a6), .val (.long (ATF q0 q1 q2 q3 q4 (-x13))), .second, .val (.long (ATF q0 q1 q2 q3 q4 ((1 : Int32) - x13))), .second, .val (.long (ATF q0 q1 q2 q3 q4 ((2 : Int32) - x13))), .second, .val (.long (((((ATF q0 q1 q2 q3 q4 ((3 : Int32) - x13)) ||| (ATF q0 q1 q2 q3 q4 ((4 : Int32) - x13))) ||| (ATF q0 q1 q2 q3 q4 ((5 : Int32) - x13))) ||| (ATF q0 q1 q2 q3 q4 ((6 : Int32) - x13))) ||| (ATF q0 q1 q2 q3 q4 ((7 : Int32) - x13)))), .second, .unset] [(.int v)])) (x := (1 : Int32)) (y := (0 : Int32)) (fun hc => ?_) (fun hc => ?_)) ?_
                  · refine OG.trans (OG.ifNo C d11_305 (tltL hc).2.2.2 (pc' := 308) rfl) ?_
                    refine OG.trans (OG.iconst C d11_308 (z := (1 : Int32)) rfl (pc' := 309) rfl) ?_
                    refine OG.trans (OG.goto C d11_309 (by decide) (pc' := 313) (by decide)) ?_
                    exact OG.refl
                  · refine OG.trans (OG.ifYes C d11_305 (fltL hc).2.2.2 (by decide) (pc' := 312) (by decide)) ?_
                    refine OG.trans (OG.iconst C d11_312 (z := (0 : Int32)) rfl (pc' := 313) rfl) ?_
                    exact OG.refl
                  exact OG.refl
                · refine OG.trans (OG.ifYes C d11_296 (feqL hc).2 (by decide) (pc' := 312) (by decide)) ?_
                  refine OG.trans (OG.iconst C d11_312 (z := (0 : Int32)) rfl (pc' := 313) rfl) ?_
                  exact OG.refl
                exact OG.refl
              exact OG.refl
            · refine OG.trans (OG.ifYes C d11_278 (feqL hc).2 (by decide) (pc' := 312) (by decide)) ?_
              refine OG.trans (OG.iconst C d11_312 (z := (0 : Int32)) rfl (pc' := 313) rfl) ?_
              exact OG.refl
            exact OG.refl
          exact OG.refl
        · refine OG.trans (OG.ifYes C d11_260 (feqL hc).2 (by decide) (pc' := 308) (by decide)) ?_
          refine OG.trans (OG.iconst C d11_308 (z := (1 : Int32)) rfl (pc' := 309) rfl) ?_
          refine OG.trans (OG.goto C d11_309 (by decide) (pc' := 313) (by decide)) ?_
          exact OG.refl
        refine OG.ow (OG.istore C d11_313 (ls' := #[.val (.long l0), .second, .val (.long l1), .second, .val (.long l2), .second, .val (.long l3), .second, .val (.long x8), .second, .val (.int (if (((l0 ||| l1) ||| l2) ||| l3) = (0 : Int64) then (1 : Int32) else (0 : Int32))), .val (.long (x8 + (36 : Int64))), .second, .val (.int x13), .val (.int x14), .val (.long zm), .second, .val (.long zn), .second, .val (.ref a6), .val (.long (ATF q0 q1 q2 q3 q4 (-x13))), .second, .val (.long (ATF q0 q1 q2 q3 q4 ((1 : Int32) - x13))), .second, .val (.long (ATF q0 q1 q2 q3 q4 ((2 : Int32) - x13))), .second, .val (.long (((((ATF q0 q1 q2 q3 q4 ((3 : Int32) - x13)) ||| (ATF q0 q1 q2 q3 q4 ((4 : Int32) - x13))) ||| (ATF q0 q1 q2 q3 q4 ((5 : Int32) - x13))) ||| (ATF q0 q1 q2 q3 q4 ((6 : Int32) - x13))) ||| (ATF q0 q1 q2 q3 q4 ((7 : Int32) - x13)))), .second, .val (.int (if (((((ATF q0 q1 q2 q3 q4 ((3 : Int32) - x13)) ||| (ATF q0 q1 q2 q3 q4 ((4 : Int32) - x13))) ||| (ATF q0 q1 q2 q3 q4 ((5 : Int32) - x13))) ||| (ATF q0 q1 q2 q3 q4 ((6 : Int32) - x13))) ||| (ATF q0 q1 q2 q3 q4 ((7 : Int32) - x13))) = (0 : Int64) then (if (9 : Int64) < (ATF q0 q1 q2 q3 q4 ((2 : Int32) - x13)) then (1 : Int32) else (if (ATF q0 q1 q2 q3 q4 ((2 : Int32) - x13)) = (9 : Int64) then (if (223372036 : Int64) < (ATF q0 q1 q2 q3 q4 ((1 : Int32) - x13)) then (1 : Int32) else (if (ATF q0 q1 q2 q3 q4 ((1 : Int32) - x13)) = (223372036 : Int64) then (if (854775807 : Int64) < (ATF q0 q1 q2 q3 q4 (-x13)) then (1 : Int32) else (0 : Int32)) else (0 : Int32))) else (0 : Int32))) else (1 : Int32)))]) rfl (pc' := 315) rfl) ?_
        refine OG.ow (OG.iload C d11_315 rfl (pc' := 317) rfl) ?_
        by_cases hc18 : (if (((((ATF q0 q1 q2 q3 q4 ((3 : Int32) - x13)) ||| (ATF q0 q1 q2 q3 q4 ((4 : Int32) - x13))) ||| (ATF q0 q1 q2 q3 q4 ((5 : Int32) - x13))) ||| (ATF q0 q1 q2 q3 q4 ((6 : Int32) - x13))) ||| (ATF q0 q1 q2 q3 q4 ((7 : Int32) - x13))) = (0 : Int64) then (if (9 : Int64) < (ATF q0 q1 q2 q3 q4 ((2 : Int32) - x13)) then (1 : Int32) else (if (ATF q0 q1 q2 q3 q4 ((2 : Int32) - x13)) = (9 : Int64) then (if (223372036 : Int64) < (ATF q0 q1 q2 q3 q4 ((1 : Int32) - x13)) then (1 : Int32) else (if (ATF q0 q1 q2 q3 q4 ((1 : Int32) - x13)) = (223372036 : Int64) then (if (854775807 : Int64) < (ATF q0 q1 q2 q3 q4 (-x13)) then (1 : Int32) else (0 : Int32)) else (0 : Int32))) else (0 : Int32))) else (1 : Int32)) = (0 : Int32)
        · refine OG.ow (OG.ifYes C d11_317 ((if0 _ _).trans (teq hc18).1) (by decide) (pc' := 324) (by decide)) ?_
          refine OG.ow (OG.lload C d11_324 rfl (pc' := 326) rfl) ?_
          refine OG.ow (OG.ldcL C (w87 hw) d11_326 (pc' := 329) rfl) ?_
          refine OG.ow (OG.lmul C d11_329 (pc' := 330) rfl) ?_
          refine OG.ow (OG.lload C d11_330 rfl (pc' := 332) rfl) ?_
          refine OG.ow (OG.ldcL C (w83 hw) d11_332 (pc' := 335) rfl) ?_
          refine OG.ow (OG.lmul C d11_335 (pc' := 336) rfl) ?_
          refine OG.ow (OG.ladd C d11_336 (pc' := 337) rfl) ?_
          refine OG.ow (OG.lload C d11_337 rfl (pc' := 339) rfl) ?_
          refine OG.ow (OG.ladd C d11_339 (pc' := 340) rfl) ?_
          refine OW.retL C d11_340 (by decide) (by decide) ?_
          refine ⟨_, rfl, (((((((((Keep.refl h []).trans Kh4 all0).trans Kh5 all0).ext Eh7).wr Wh8 (Or.inr (Nat.le_trans (Nat.le_trans (Nat.le_trans (Nat.le_refl _) Kh4.1) Kh5.1) (Nat.le_of_eq ga6)))).wr Wh10 (Or.inr (Nat.le_trans (Nat.le_trans (Nat.le_trans (Nat.le_refl _) Kh4.1) Kh5.1) (Nat.le_of_eq ga6)))).wr Wh12 (Or.inr (Nat.le_trans (Nat.le_trans (Nat.le_trans (Nat.le_refl _) Kh4.1) Kh5.1) (Nat.le_of_eq ga6)))).wr Wh14 (Or.inr (Nat.le_trans (Nat.le_trans (Nat.le_trans (Nat.le_refl _) Kh4.1) Kh5.1) (Nat.le_of_eq ga6)))).wr Wh16 (Or.inr (Nat.le_trans (Nat.le_trans (Nat.le_trans (Nat.le_refl _) Kh4.1) Kh5.1) (Nat.le_of_eq ga6)))), ?_⟩
          rw [mS]
          exact ex_d m0 m1 m2 mb mo hc18
        · refine OG.ow (OG.ifNo C d11_317 ((if0 _ _).trans (feq hc18).1) (pc' := 320) rfl) ?_
          refine OG.ow (OG.ldcL C (w0 hw) d11_320 (pc' := 323) rfl) ?_
          refine OW.retL C d11_323 (by decide) (by decide) ?_
          refine ⟨_, rfl, (((((((((Keep.refl h []).trans Kh4 all0).trans Kh5 all0).ext Eh7).wr Wh8 (Or.inr (Nat.le_trans (Nat.le_trans (Nat.le_trans (Nat.le_refl _) Kh4.1) Kh5.1) (Nat.le_of_eq ga6)))).wr Wh10 (Or.inr (Nat.le_trans (Nat.le_trans (Nat.le_trans (Nat.le_refl _) Kh4.1) Kh5.1) (Nat.le_of_eq ga6)))).wr Wh12 (Or.inr (Nat.le_trans (Nat.le_trans (Nat.le_trans (Nat.le_refl _) Kh4.1) Kh5.1) (Nat.le_of_eq ga6)))).wr Wh14 (Or.inr (Nat.le_trans (Nat.le_trans (Nat.le_trans (Nat.le_refl _) Kh4.1) Kh5.1) (Nat.le_of_eq ga6)))).wr Wh16 (Or.inr (Nat.le_trans (Nat.le_trans (Nat.le_trans (Nat.le_refl _) Kh4.1) Kh5.1) (Nat.le_of_eq ga6)))), ?_⟩
          rw [mS]
          exact ex_c m0 m1 m2 mb mo hc18
      · refine OG.ow (OG.ifNo C d11_43 (fltL hc3).1 (pc' := 46) rfl) ?_
        refine OG.ow (OG.ldcL C (w0 hw) d11_46 (pc' := 49) rfl) ?_
        refine OW.retL C d11_49 (by decide) (by decide) ?_
        refine ⟨_, rfl, (Keep.refl h []), ?_⟩
        exact ex_b l0r l1r l2r l3r he hc1 hc3
    · refine OG.ow (OG.ifNo C d11_32 (fltL hc2).2.2.1 (pc' := 35) rfl) ?_
      refine OG.ow (OG.lconst C d11_35 (z := (0 : Int64)) rfl (pc' := 36) rfl) ?_
      refine OW.retL C d11_36 (by decide) (by decide) ?_
      refine ⟨_, rfl, (Keep.refl h []), ?_⟩
      exact ex_a l0r l1r l2r l3r he (Or.inr hc2)
set_option maxRecDepth 65536 in
set_option maxHeartbeats 40000000 in
theorem b0 {l : Launch} {Z : State} {a0 : Array Value} (hw : HW a0 Z) (x0 : Int64) (x1 : Int32) (x2 : Int64) (x3 : Int32) (x4 : Int32) {pw : Addr} {n0 : Nat} {h : Heap} (Z0 : n0 ≤ h.size) (S_pw : Sta Z h "com/example/planwright/planwright/service/testing/PercentageQuotient" "POWERS_OF_TEN" "[J" (.ref pw)) (A_pw : OA Z h pw .long PWL) (S_dg : Sta Z h "com/example/planwright/planwright/model/WorkingPrecision" "DIGITS" "I" (.int (34 : Int32))) : OM l Z x code maxLocals ret room_1 n0 h #[(.long x0), (.int x1), (.long x2), (.int x3), (.int x4)] (fun v h' => v = some (.int 1)) 5 31 := by
  refine OM.of_body (ls := #[.val (.long x0), .second, .val (.int x1), .val (.long x2), .second, .val (.int x3), .val (.int x4), .unset, .unset, .unset, .unset, .unset, .unset, .unset, .unset, .unset, .unset, .unset, .unset, .unset, .unset, .unset, .unset]) (plainFor_of_name pn_1) (fun m => by first | (simp [entryFrame, mkF, argsToLocals, Value.category, maxLocals]; done) | rfl) ?_
  intro p e s m below meth c C
  refine OG.ow (OG.lloadN C at_0 rfl (pc' := 1) rfl) ?_
  refine OG.ow (OG.ldcL C (w0 hw) at_1 (pc' := 4) rfl) ?_
  refine OG.ow (OG.land C at_4 (pc' := 5) rfl) ?_
  refine OG.ow (OG.ldcL C (w1 hw) at_5 (pc' := 8) rfl) ?_
  refine OG.ow (OG.lrem C at_8 (by decide) (pc' := 9) rfl) ?_
  generalize gm : ((x0 &&& (9223372036854775807 : Int64)) % (10000000000000000 : Int64)) = mm
  have hm := own_mm gm
  refine OG.ow (OG.lstore C at_9 (ls' := #[.val (.long x0), .second, .val (.int x1), .val (.long x2), .second, .val (.int x3), .val (.int x4), .val (.long mm), .second, .unset, .unset, .unset, .unset, .unset, .unset, .unset, .unset, .unset, .unset, .unset, .unset, .unset, .unset]) rfl (pc' := 11) rfl) ?_
  refine OG.ow (OG.lloadN C at_11 rfl (pc' := 12) rfl) ?_
  refine OG.ow (OG.ldcL C (w0 hw) at_12 (pc' := 15) rfl) ?_
  refine OG.ow (OG.land C at_15 (pc' := 16) rfl) ?_
  refine OG.ow (OG.ldcL C (w2 hw) at_16 (pc' := 19) rfl) ?_
  refine OG.ow (OG.lrem C at_19 (by decide) (pc' := 20) rfl) ?_
  refine OG.ow (OG.lconst C at_20 (z := (1 : Int64)) rfl (pc' := 21) rfl) ?_
  refine OG.ow (OG.ladd C at_21 (pc' := 22) rfl) ?_
  generalize gp : (((x2 &&& (9223372036854775807 : Int64)) % (99999999999999999 : Int64)) + (1 : Int64)) = pp
  have hy := own_pp gp
  refine OG.ow (OG.lstore C at_22 (ls' := #[.val (.long x0), .second, .val (.int x1), .val (.long x2), .second, .val (.int x3), .val (.int x4), .val (.long mm), .second, .val (.long pp), .second, .unset, .unset, .unset, .unset, .unset, .unset, .unset, .unset, .unset, .unset, .unset, .unset]) rfl (pc' := 24) rfl) ?_
  refine OW.newO C (w3 hw) (w4 hw) (w5 hw) at_24 (by decide) (by decide) (pc' := 27) rfl ?_
  intro a1 h2 ga1 Eh2 Aa1 Da1
  refine OG.ow (OG.dup C at_27 rfl (pc' := 28) rfl) ?_
  refine OW.init C (w6 hw) (w7 hw) (w5 hw) (w8 hw) rfl (by decide) (b1 hw a1 (Nat.le_trans Z0 Eh2.1) (Nat.le_trans Z0 (Nat.le_of_eq ga1)) Aa1 (show Fld Z h2 a1 "com/example/planwright/planwright/service/testing/PercentageQuotient" "limbs" "[J" .null from Da1 (Or.inr (w14 hw)) (ty := (.array .long)) (by decide)) (show Fld Z h2 a1 "com/example/planwright/planwright/service/testing/PercentageQuotient" "scale" "I" (.int (0 : Int32)) from Da1 (Or.inl (w45 hw)) (ty := .int) (by decide))) at_28 pd_7 rfl (argsL := []) (rest := [(.ref a1)]) rfl rfl (W := 1) rfl (by decide) (by decide) (by decide) (by decide) (pc' := 31) rfl ?_
  intro vh3 h3 qh3
  obtain ⟨rfl, Kh3, b4, gb4, Fh3, Sh3, Ab4⟩ := qh3
  refine OG.ow (OG.astore C at_31 rfl (ls' := #[.val (.long x0), .second, .val (.int x1), .val (.long x2), .second, .val (.int x3), .val (.int x4), .val (.long mm), .second, .val (.long pp), .second, .val (.ref a1), .unset, .unset, .unset, .unset, .unset, .unset, .unset, .unset, .unset, .unset, .unset]) rfl (pc' := 33) rfl) ?_
  refine OG.ow (OG.aload C at_33 rfl rfl (pc' := 35) rfl) ?_
  refine OG.ow (OG.lload C at_35 rfl (pc' := 37) rfl) ?_
  refine OG.ow (OG.iloadN C at_37 rfl (pc' := 38) rfl) ?_
  refine OG.ow (OG.lload C at_38 rfl (pc' := 40) rfl) ?_
  refine OG.ow (OG.iload C at_40 rfl (pc' := 42) rfl) ?_
  have G5 := (Aa1.keep Kh3)
  have G6 := (Sta.kp (Sta.ext Eh2 S_pw) Kh3 (allS (Aa1).pl all0))
  have G7 := ((A_pw.ext Eh2).keep Kh3 (ninS (Nat.ne_of_lt (Nat.lt_of_lt_of_le (Nat.lt_of_lt_of_le (A_pw).lt (Nat.le_refl _)) (Nat.le_of_eq ga1))) nin0))
  have G8 := (Sta.kp (Sta.ext Eh2 S_dg) Kh3 (allS (Aa1).pl all0))
  refine OW.callV C (w15 hw) (w16 hw) (w18 hw) (w17 hw) (w5 hw) (w19 hw) (by decide) G5 (b3 hw a1 mm x1 pp x3 (Nat.le_trans (Nat.le_trans Z0 Eh2.1) Kh3.1) (Nat.le_trans Z0 (Nat.le_of_eq ga1)) (Nat.le_trans (Nat.le_trans Z0 Eh2.1) gb4) G5 Fh3 Sh3 Ab4 G6 G7 G8 (Nat.ne_of_lt (Nat.lt_of_lt_of_le (Nat.lt_of_lt_of_le (Aa1).lt (Nat.le_refl _)) gb4)) (Nat.ne_of_lt (Nat.lt_of_lt_of_le (Nat.lt_of_lt_of_le (A_pw).lt (Nat.le_trans (Nat.le_refl _) Eh2.1)) gb4)) own_r0 own_r0 own_r0 own_r0 hm hy) at_42 pd_8 rfl (argsL := [(.long mm), (.int x1), (.long pp), (.int x3)]) (rest := []) rfl rfl (W := 0) rfl (by decide) (by decide) (by decide) (by decide) (pc' := 45) rfl ?_
  intro vh9 h9 qh9
  obtain ⟨z14, c15, rfl, Kh9, Fh9, Sh9, l10, l11, l12, l13, Ah9, rl10, rl11, rl12, rl13⟩ := qh9
  refine OG.ow (OG.pop C at_45 rfl (pc' := 46) rfl) ?_
  refine OG.ow (OG.aload C at_46 rfl rfl (pc' := 48) rfl) ?_
  refine OG.ow (OG.iconst C at_48 (z := (0 : Int32)) rfl (pc' := 49) rfl) ?_
  have G16 := (G5.keep Kh9)
  refine OG.ow (OG.callV C (w46 hw) (w47 hw) (w49 hw) (w48 hw) (w5 hw) (w50 hw) (by decide) G16 (bLb_0 hw a1 (Nat.le_trans (Nat.le_trans (Nat.le_trans Z0 Eh2.1) Kh3.1) Kh9.1) Fh9 Ah9) at_49 pd_5 rfl (argsL := [(.int (0 : Int32))]) (rest := []) rfl rfl (W := 0) rfl (by decide) (by decide) (pc' := 52) rfl) ?_
  refine OG.ow (OG.lstore C at_52 (ls' := #[.val (.long x0), .second, .val (.int x1), .val (.long x2), .second, .val (.int x3), .val (.int x4), .val (.long mm), .second, .val (.long pp), .second, .val (.ref a1), .val (.long l10), .second, .unset, .unset, .unset, .unset, .unset, .unset, .unset, .unset, .unset]) rfl (pc' := 54) rfl) ?_
  refine OG.ow (OG.aload C at_54 rfl rfl (pc' := 56) rfl) ?_
  refine OG.ow (OG.iconst C at_56 (z := (1 : Int32)) rfl (pc' := 57) rfl) ?_
  refine OG.ow (OG.callV C (w46 hw) (w47 hw) (w49 hw) (w48 hw) (w5 hw) (w50 hw) (by decide) G16 (bLb_1 hw a1 (Nat.le_trans (Nat.le_trans (Nat.le_trans Z0 Eh2.1) Kh3.1) Kh9.1) Fh9 Ah9) at_57 pd_5 rfl (argsL := [(.int (1 : Int32))]) (rest := []) rfl rfl (W := 0) rfl (by decide) (by decide) (pc' := 60) rfl) ?_
  refine OG.ow (OG.lstore C at_60 (ls' := #[.val (.long x0), .second, .val (.int x1), .val (.long x2), .second, .val (.int x3), .val (.int x4), .val (.long mm), .second, .val (.long pp), .second, .val (.ref a1), .val (.long l10), .second, .val (.long l11), .second, .unset, .unset, .unset, .unset, .unset, .unset, .unset]) rfl (pc' := 62) rfl) ?_
  refine OG.ow (OG.aload C at_62 rfl rfl (pc' := 64) rfl) ?_
  refine OG.ow (OG.iconst C at_64 (z := (2 : Int32)) rfl (pc' := 65) rfl) ?_
  refine OG.ow (OG.callV C (w46 hw) (w47 hw) (w49 hw) (w48 hw) (w5 hw) (w50 hw) (by decide) G16 (bLb_2 hw a1 (Nat.le_trans (Nat.le_trans (Nat.le_trans Z0 Eh2.1) Kh3.1) Kh9.1) Fh9 Ah9) at_65 pd_5 rfl (argsL := [(.int (2 : Int32))]) (rest := []) rfl rfl (W := 0) rfl (by decide) (by decide) (pc' := 68) rfl) ?_
  refine OG.ow (OG.lstore C at_68 (ls' := #[.val (.long x0), .second, .val (.int x1), .val (.long x2), .second, .val (.int x3), .val (.int x4), .val (.long mm), .second, .val (.long pp), .second, .val (.ref a1), .val (.long l10), .second, .val (.long l11), .second, .val (.long l12), .second, .unset, .unset, .unset, .unset, .unset]) rfl (pc' := 70) rfl) ?_
  refine OG.ow (OG.aload C at_70 rfl rfl (pc' := 72) rfl) ?_
  refine OG.ow (OG.iconst C at_72 (z := (3 : Int32)) rfl (pc' := 73) rfl) ?_
  refine OG.ow (OG.callV C (w46 hw) (w47 hw) (w49 hw) (w48 hw) (w5 hw) (w50 hw) (by decide) G16 (bLb_3 hw a1 (Nat.le_trans (Nat.le_trans (Nat.le_trans Z0 Eh2.1) Kh3.1) Kh9.1) Fh9 Ah9) at_73 pd_5 rfl (argsL := [(.int (3 : Int32))]) (rest := []) rfl rfl (W := 0) rfl (by decide) (by decide) (pc' := 76) rfl) ?_
  refine OG.ow (OG.lstore C at_76 (ls' := #[.val (.long x0), .second, .val (.int x1), .val (.long x2), .second, .val (.int x3), .val (.int x4), .val (.long mm), .second, .val (.long pp), .second, .val (.ref a1), .val (.long l10), .second, .val (.long l11), .second, .val (.long l12), .second, .val (.long l13), .second, .unset, .unset, .unset]) rfl (pc' := 78) rfl) ?_
  refine OG.ow (OG.aload C at_78 rfl rfl (pc' := 80) rfl) ?_
  refine OG.ow (OG.callV C (w51 hw) (w52 hw) (w54 hw) (w53 hw) (w5 hw) (w55 hw) (by decide) G16 (b9 hw a1 (Nat.le_trans (Nat.le_trans (Nat.le_trans Z0 Eh2.1) Kh3.1) Kh9.1) Sh9) at_80 pd_9 rfl (argsL := []) (rest := []) rfl rfl (W := 0) rfl (by decide) (by decide) (pc' := 83) rfl) ?_
  refine OG.ow (OG.istore C at_83 (ls' := #[.val (.long x0), .second, .val (.int x1), .val (.long x2), .second, .val (.int x3), .val (.int x4), .val (.long mm), .second, .val (.long pp), .second, .val (.ref a1), .val (.long l10), .second, .val (.long l11), .second, .val (.long l12), .second, .val (.long l13), .second, .val (.int c15), .unset, .unset]) rfl (pc' := 85) rfl) ?_
  refine OG.ow (OG.aload C at_85 rfl rfl (pc' := 87) rfl) ?_
  refine OG.ow (OG.iload C at_87 rfl (pc' := 89) rfl) ?_
  have G17 := (Sta.kp G6 Kh9 (allS (OPl.keep (Aa1).pl Kh3) (allS (Ab4).pl all0)))
  have G18 := (G7.keep Kh9 (ninS (Nat.ne_of_lt (Nat.lt_of_lt_of_le (Nat.lt_of_lt_of_le (A_pw).lt (Nat.le_refl _)) (Nat.le_of_eq ga1))) (ninS (Nat.ne_of_lt (Nat.lt_of_lt_of_le (Nat.lt_of_lt_of_le (A_pw).lt (Nat.le_trans (Nat.le_refl _) Eh2.1)) gb4)) nin0)))
  refine OW.callV C (w56 hw) (w57 hw) (w59 hw) (w58 hw) (w5 hw) (w60 hw) (by decide) G16 (b10 hw a1 x4 (Nat.le_trans (Nat.le_trans (Nat.le_trans Z0 Eh2.1) Kh3.1) Kh9.1) Fh9 Ah9 Sh9 G17 G18 rl10 rl11 rl12 rl13) at_89 pd_5 rfl (argsL := [(.int x4)]) (rest := []) rfl rfl (W := 0) rfl (by decide) (by decide) (by decide) (by decide) (pc' := 92) rfl ?_
  intro vh19 h19 qh19
  obtain ⟨z20, rfl, rfl, ez20⟩ := qh19
  refine OG.ow (OG.lstore C at_92 (ls' := #[.val (.long x0), .second, .val (.int x1), .val (.long x2), .second, .val (.int x3), .val (.int x4), .val (.long mm), .second, .val (.long pp), .second, .val (.ref a1), .val (.long l10), .second, .val (.long l11), .second, .val (.long l12), .second, .val (.long l13), .second, .val (.int c15), .val (.long z20), .second]) rfl (pc' := 94) rfl) ?_
  refine OG.ow (OG.lload C at_94 rfl (pc' := 96) rfl) ?_
  refine OG.ow (OG.lload C at_96 rfl (pc' := 98) rfl) ?_
  refine OG.ow (OG.lload C at_98 rfl (pc' := 100) rfl) ?_
  refine OG.ow (OG.lload C at_100 rfl (pc' := 102) rfl) ?_
  refine OG.ow (OG.lload C at_102 rfl (pc' := 104) rfl) ?_
  refine OG.ow (OG.iload C at_104 rfl (pc' := 106) rfl) ?_
  refine OG.ow (OG.i2l C at_106 (pc' := 107) rfl) ?_
  refine OG.ow (OG.iload C at_107 rfl (pc' := 109) rfl) ?_
  refine OG.ow (OG.i2l C at_109 (pc' := 110) rfl) ?_
  refine OG.ow (OG.lsub C at_110 (pc' := 111) rfl) ?_
  refine OW.callS C (w62 hw) (w63 hw) (w64 hw) (w65 hw) (by decide) (b11 hw l10 l11 l12 l13 (x4.toInt64 - c15.toInt64) (Nat.le_trans (Nat.le_trans (Nat.le_trans Z0 Eh2.1) Kh3.1) Kh9.1) rl10 rl11 rl12 rl13 (own_e _ _)) at_111 pd_10 rfl (argsL := [(.long l10), (.long l11), (.long l12), (.long l13), (.long (x4.toInt64 - c15.toInt64))]) (rest := [(.long z20)]) rfl rfl (W := 2) rfl (by decide) (by decide) (by decide) (by decide) (pc' := 114) rfl ?_
  intro vh21 h21 qh21
  obtain ⟨z22, rfl, Kh21, ez22⟩ := qh21
  refine OG.ow (OG.lcmp C at_114 (pc' := 115) rfl) ?_
  refine OG.ow (OG.ifNo C at_115 (teqL (own_eq ez20 ez22)).2 (pc' := 118) rfl) ?_
  refine OG.ow (OG.iconst C at_118 (z := (1 : Int32)) rfl (pc' := 119) rfl) ?_
  refine OG.ow (OG.goto C at_119 (by decide) (pc' := 123) (by decide)) ?_
  refine OW.retN (t := .boolean) C (by simp) at_123 (by decide) (by decide) ?_
  rfl
theorem own_lenv {args : Array Value} {s : State} {t : Term} (h1 : (Cond.eq (Term.length t) (Term.int (19 : Int32))).value args s none s [] = some true) : ∃ (a : Addr) (c : Cell), t.eval args s none [] s = some (.ref a) ∧ s.arrayAt? a = some c ∧ c.slots.size = 19 := by
  obtain ⟨v, q1, q2⟩ := Cond.eq_worth h1
  rw [Term.int_eval] at q2
  cases q2
  obtain ⟨a, c, h2, h3, h4⟩ := Term.length_spec q1
  refine ⟨a, c, h2, h3, ?_⟩
  by_cases h31 : c.slots.size < 2 ^ 31
  · have h5 : c.slots.size.toInt32 = (19 : Int32) := (Value.int.inj h4).symm
    have h6 : c.slots.size.toInt32.toInt = 19 := by rw [h5]; decide
    have h7 : c.slots.size.toInt32.toInt = c.slots.size := by
      exact Int32.toInt_ofNat_of_lt (by omega)
    omega
  · simp [Term.eval, h2, h3, h31] at q1
theorem own_elv {args : Array Value} {s : State} {t : Term} {j : Int32} {z : Int64} {a : Addr} {c : Cell} (h : (Cond.eq (Term.elem t (Term.int j)) (Term.long z)).value args s none s [] = some true) (ht : t.eval args s none [] s = some (.ref a)) (hc : s.heap[a]? = some c) : c.slots[j.toNatClampNeg]? = some (.long z) := by
  obtain ⟨v, q1, q2⟩ := Cond.eq_worth h
  cases (show some (Value.long z) = some v from q2)
  exact (elem_in q1 ht (Term.int_eval j) hc).2
theorem own_start {args : Array Value} {s : State} {t : Term} (h0 : (Cond.arrayOf t Jvm.ClassFile.FieldType.long).value args s none s [] = some true) (h1 : (Cond.eq (Term.length t) (Term.int (19 : Int32))).value args s none s [] = some true) (e0 : (Cond.eq (Term.elem t (Term.int (0 : Int32))) (Term.long (1 : Int64))).value args s none s [] = some true) (e1 : (Cond.eq (Term.elem t (Term.int (1 : Int32))) (Term.long (10 : Int64))).value args s none s [] = some true) (e2 : (Cond.eq (Term.elem t (Term.int (2 : Int32))) (Term.long (100 : Int64))).value args s none s [] = some true) (e3 : (Cond.eq (Term.elem t (Term.int (3 : Int32))) (Term.long (1000 : Int64))).value args s none s [] = some true) (e4 : (Cond.eq (Term.elem t (Term.int (4 : Int32))) (Term.long (10000 : Int64))).value args s none s [] = some true) (e5 : (Cond.eq (Term.elem t (Term.int (5 : Int32))) (Term.long (100000 : Int64))).value args s none s [] = some true) (e6 : (Cond.eq (Term.elem t (Term.int (6 : Int32))) (Term.long (1000000 : Int64))).value args s none s [] = some true) (e7 : (Cond.eq (Term.elem t (Term.int (7 : Int32))) (Term.long (10000000 : Int64))).value args s none s [] = some true) (e8 : (Cond.eq (Term.elem t (Term.int (8 : Int32))) (Term.long (100000000 : Int64))).value args s none s [] = some true) (e9 : (Cond.eq (Term.elem t (Term.int (9 : Int32))) (Term.long (1000000000 : Int64))).value args s none s [] = some true) (e10 : (Cond.eq (Term.elem t (Term.int (10 : Int32))) (Term.long (10000000000 : Int64))).value args s none s [] = some true) (e11 : (Cond.eq (Term.elem t (Term.int (11 : Int32))) (Term.long (100000000000 : Int64))).value args s none s [] = some true) (e12 : (Cond.eq (Term.elem t (Term.int (12 : Int32))) (Term.long (1000000000000 : Int64))).value args s none s [] = some true) (e13 : (Cond.eq (Term.elem t (Term.int (13 : Int32))) (Term.long (10000000000000 : Int64))).value args s none s [] = some true) (e14 : (Cond.eq (Term.elem t (Term.int (14 : Int32))) (Term.long (100000000000000 : Int64))).value args s none s [] = some true) (e15 : (Cond.eq (Term.elem t (Term.int (15 : Int32))) (Term.long (1000000000000000 : Int64))).value args s none s [] = some true) (e16 : (Cond.eq (Term.elem t (Term.int (16 : Int32))) (Term.long (10000000000000000 : Int64))).value args s none s [] = some true) (e17 : (Cond.eq (Term.elem t (Term.int (17 : Int32))) (Term.long (100000000000000000 : Int64))).value args s none s [] = some true) (e18 : (Cond.eq (Term.elem t (Term.int (18 : Int32))) (Term.long (1000000000000000000 : Int64))).value args s none s [] = some true) : ∃ pw : Addr, t.eval args s none [] s = some (.ref pw) ∧ OA s s.heap pw .long PWL := by
  obtain ⟨a, c, ev, har, hsz⟩ := own_lenv h1
  obtain ⟨c', A⟩ := Arr.start ev h0
  cases har.symm.trans (A.fin (Vm.Alike.refl _))
  have hcc := A.1
  refine ⟨a, ev, c, A, ?_⟩
  apply List.ext_getElem?
  intro i
  rw [Array.getElem?_toList]
  by_cases hi : i < 19
  · have hh : i = 0 ∨ i = 1 ∨ i = 2 ∨ i = 3 ∨ i = 4 ∨ i = 5 ∨ i = 6 ∨ i = 7 ∨ i = 8 ∨ i = 9 ∨ i = 10 ∨ i = 11 ∨ i = 12 ∨ i = 13 ∨ i = 14 ∨ i = 15 ∨ i = 16 ∨ i = 17 ∨ i = 18 := by omega
    rcases hh with rfl | rfl | rfl | rfl | rfl | rfl | rfl | rfl | rfl | rfl | rfl | rfl | rfl | rfl | rfl | rfl | rfl | rfl | rfl
    · exact own_elv e0 ev hcc
    · exact own_elv e1 ev hcc
    · exact own_elv e2 ev hcc
    · exact own_elv e3 ev hcc
    · exact own_elv e4 ev hcc
    · exact own_elv e5 ev hcc
    · exact own_elv e6 ev hcc
    · exact own_elv e7 ev hcc
    · exact own_elv e8 ev hcc
    · exact own_elv e9 ev hcc
    · exact own_elv e10 ev hcc
    · exact own_elv e11 ev hcc
    · exact own_elv e12 ev hcc
    · exact own_elv e13 ev hcc
    · exact own_elv e14 ev hcc
    · exact own_elv e15 ev hcc
    · exact own_elv e16 ev hcc
    · exact own_elv e17 ev hcc
    · exact own_elv e18 ev hcc
  · rw [Array.getElem?_eq_none (by omega), List.getElem?_eq_none (by simp only [List.length_cons, List.length_nil]; omega)]
theorem own_dig {args : Array Value} {s : State} {t : Term} (h : (Cond.eq t (Term.int (34 : Int32))).value args s none s [] = some true) : t.eval args s none [] s = some (.int (34 : Int32)) := by
  obtain ⟨v, q1, q2⟩ := Cond.eq_worth h
  rw [Term.int_eval] at q2
  cases q2
  exact q1
set_option maxRecDepth 65536 in
set_option maxHeartbeats 40000000 in
theorem comes_1 {Post : Tables → Env → Array Value → State → Outcome → State → Prop} (hpost : ∀ tb e args s v u, (limb_1_1.after args s (.returned v) u = true ∧ limb_1_2.after args s (.returned v) u = true ∧ True) → FrameEnd s (.returned v) u (Jvm.fieldLocs frame_1_writes args s ++ Jvm.arrayLocs frame_1_arrays args s ++ Jvm.staticLocs frame_1_statics s) 24 128 → Post tb e args s (.returned v) u) :
    ArmFor flags0 classFile x code maxLocals ret World_1 tables_1 room_1 Calls_1 rest_1 Pre_1 Post := by
  intro l hfl _ _ p e ha hc hk s m args below hf hA hF happ hP
  obtain ⟨hcalls, hrest, hpre⟩ := hP
  obtain ⟨-, -, -, hnamed, -, -, -, hat⟩ := (Spec.applies_iff hf).mp happ
  obtain ⟨hg, hn⟩ := and_e (Cond.before_iff.mp (show (Jvm.Cond.and given_1 narrow_1).before args s = true from hpre))
  obtain ⟨h1, q0⟩ := and_e hg
  obtain ⟨k0, q1⟩ := and_e q0
  obtain ⟨k1, q2⟩ := and_e q1
  obtain ⟨k2, q3⟩ := and_e q2
  obtain ⟨k3, q4⟩ := and_e q3
  obtain ⟨u0, u1, u2, u3, u4, rfl⟩ : ∃ u0 u1 u2 u3 u4 : Value, args = #[u0, u1, u2, u3, u4] := by
    have hs : args.size = 5 := by simpa [Cond.value, given_1] using h1
    obtain ⟨L⟩ := args
    match L, hs with
    | [u0, u1, u2, u3, u4], _ => exact ⟨u0, u1, u2, u3, u4, rfl⟩
  have hw : HW #[u0, u1, u2, u3, u4] s := fun d (hd : d ∈ tables_1) => atoms_spec (ws := Jvm.Cond.code x code maxLocals ret :: tables_1) hat d (List.mem_cons_of_mem _ hd)
  have hfit : Fit s := fun {y c} hc i hi => by
    obtain ⟨ha, rfl⟩ := Array.getElem?_eq_some_iff.mp hc
    have q := List.all_eq_true.mp ((Array.all_eq_true_iff_forall_mem.mp hF) _ (Array.getElem_mem ha)) i (List.mem_range.mpr hi)
    simpa [Array.getElem?_eq_getElem hi] using q
  obtain ⟨i0, e0⟩ := isL_v k0
  obtain rfl : u0 = (.long i0) := Option.some.inj e0
  obtain ⟨i1, e1⟩ := is_v k1
  obtain rfl : u1 = (.int i1) := Option.some.inj e1
  obtain ⟨i2, e2⟩ := isL_v k2
  obtain rfl : u2 = (.long i2) := Option.some.inj e2
  obtain ⟨i3, e3⟩ := is_v k3
  obtain rfl : u3 = (.int i3) := Option.some.inj e3
  obtain ⟨i4, e4⟩ := is_v q4
  obtain rfl : u4 = (.int i4) := Option.some.inj e4
  obtain ⟨m0, mr0⟩ := and_e hn
  obtain ⟨m1, mr1⟩ := and_e mr0
  obtain ⟨m2, mr2⟩ := and_e mr1
  obtain ⟨m3, mr3⟩ := and_e mr2
  obtain ⟨m4, mr4⟩ := and_e mr3
  obtain ⟨m5, mr5⟩ := and_e mr4
  obtain ⟨m6, mr6⟩ := and_e mr5
  obtain ⟨m7, mr7⟩ := and_e mr6
  obtain ⟨m8, mr8⟩ := and_e mr7
  obtain ⟨m9, mr9⟩ := and_e mr8
  obtain ⟨m10, mr10⟩ := and_e mr9
  obtain ⟨m11, mr11⟩ := and_e mr10
  obtain ⟨m12, mr12⟩ := and_e mr11
  obtain ⟨m13, mr13⟩ := and_e mr12
  obtain ⟨m14, mr14⟩ := and_e mr13
  obtain ⟨m15, mr15⟩ := and_e mr14
  obtain ⟨m16, mr16⟩ := and_e mr15
  obtain ⟨m17, mr17⟩ := and_e mr16
  obtain ⟨m18, mr18⟩ := and_e mr17
  obtain ⟨m19, mr19⟩ := and_e mr18
  obtain ⟨m20, m21⟩ := and_e mr19
  obtain ⟨pw, evp, Apw⟩ := own_start m0 m1 m3 m4 m5 m6 m7 m8 m9 m10 m11 m12 m13 m14 m15 m16 m17 m18 m19 m20 m21
  have Spw := Sta.start evp (Or.inr ⟨(w5 hw), (w21 hw)⟩)
  have Sdg := Sta.start (own_dig m2) (Or.inr ⟨(w36 hw), (w37 hw)⟩)
  obtain ⟨n, o, h1, h2, h3, _, L, rfl, ⟨hv, N⟩, hq⟩ := b0 (l := l) hw i0 i1 i2 i3 i4 (Nat.le_refl _) Spw Apw Sdg (n0 := s.heap.size) (h := s.heap) tables_1 p e ha hc hk s m _ below hf ((Spec.applies_iff_loose hf).mp happ).1 ⟨rfl, State.Warmed39.refl s, rfl⟩ trivial
  subst hv
  refine ⟨n, _, h1, h2, h3, hpost _ _ _ _ _ _ ⟨Cond.after_iff.mpr rfl, Cond.after_iff.mpr (eq_i res_at (Term.int_eval (1)) rfl), trivial⟩ ⟨hq.1, hq.2.1, (hq.2.2.sift fun y hy => Or.inr (N y hy)).mono (by decide) (by decide)⟩⟩
theorem main_1_1 : Claimed_1_1 := comes_1 fun _ _ _ _ _ _ h hF => ⟨h.1, hF⟩
theorem main_1_2 : Claimed_1_2 := comes_1 fun _ _ _ _ _ _ h hF => ⟨h.2.1, hF⟩
end Jvm.Pilot.@@N@@
namespace Jvm.Pilot.@@N@@
open Jvm Jvm.ClassFile Sem Op Lib Jvm.Free Jvm.Stand Jvm.Pilot.@@N@@.Jvm.D
/-! MADE BY PROGRAM (witnessworld.py) out of the Statement's table words and the real class files: 13 classes; the members and pool entries that the words name. The judged class is class 1, her method 1. -/
namespace start1
open Jvm.ClassFile
def u (s : String) : CpInfo := .utf8 (stringToUtf16 s)
/-- a pool by its gaps: so many unusable entries, then the entry; so many at the end -/
def gap : Nat → List CpInfo → List CpInfo
  | 0, r => r
  | n + 1, r => .unusable :: gap n r
def poolList (es : List (Nat × CpInfo)) (last : Nat) : List CpInfo := es.foldr (fun e r => gap e.1 (e.2 :: r)) (gap last [])
def pool (es : List (Nat × CpInfo)) (last : Nat) : Array CpInfo := ⟨poolList es last⟩
def fileOf (pool : Array CpInfo) (this : Nat) (attrs : Array Attribute := #[]) (ms : Array MethodInfo := #[]) (fl : Nat := 33) (sup : Nat := 0) (ifs : Array Nat := #[]) (fds : Array FieldInfo := #[]) : ClassFile where
  minorVersion := 0
  majorVersion := 65
  constantPool := pool
  accessFlags := fl
  thisClass := this
  superClass := sup
  interfaces := ifs
  fields := fds
  methods := ms
  attributes := attrs
def plain (name : String) (sup : Option ClassId) : Class where
  name := name
  kind := .ordinary
  loader := none
  accessFlags := 33
  super := sup
  interfaces := #[]
  cf := none
  fields := #[]
  methods := #[]
  instanceTypes := #[]
  staticTypes := #[]
  resolved := #[]
  callSites := []
  init := .initialized
  statics := none
  mirror := none

def pool0 : Array CpInfo := pool [(5, u "<init>"), (0, u "()V"), (1, .class_ 10), (1, u "java/lang/Object")] 113

def k0c0 : Code := { maxStack := 0, maxLocals := 1, code := object_method_1_code, exceptionTable := #[], attributes := #[] }
def k0m0 : Method := { name := "<init>", desc := "()V", sig := { parameters := [], returnType := none }, accessFlags := 1, code := some k0c0 }
/-- java/lang/Object -/
def k0 : Class := { plain "java/lang/Object" none with
  accessFlags := 33
  interfaces := #[]
  cf := some (fileOf pool0 8 #[] #[{ accessFlags := 1, nameIndex := 5, descriptorIndex := 6, attributes := #[] }] 33 0 #[] #[])
  fields := #[]
  methods := #[k0m0]
  instanceTypes := #[]
  staticTypes := #[]
  resolved := Array.replicate 124 none
  statics := none }

def pool1 : Array CpInfo := pool [(2, .class_ 4), (0, .nameAndType 5 6), (0, u "java/lang/Object"), (0, u "<init>"), (0, u "()V"), (2, .long 9223372036854775807), (1, .long 10000000000000000), (1, .long 99999999999999999), (1, .class_ 16), (0, u "com/example/planwright/planwright/service/testing/PercentageQuotient"), (0, .methodref 15 3), (0, .methodref 15 19), (0, .nameAndType 20 21), (0, u "divide"), (0, u "(JIJI)Z"), (0, .methodref 15 23), (0, .nameAndType 24 25), (0, u "limb"), (0, u "(I)J"), (0, .methodref 15 27), (0, .nameAndType 28 29), (0, u "scale"), (0, u "()I"), (0, .methodref 15 31), (0, .nameAndType 32 25), (0, u "key"), (0, .methodref 34 35), (0, .class_ 36), (0, .nameAndType 37 38), (0, u "com/example/planwright/planwright/service/testing/PercentageQuotientKeyPinLaw"), (0, u "expected"), (0, u "(JJJJJ)J"), (0, .long 10), (1, .long 100), (1, .long 1000), (1, .long 10000), (1, .long 100000), (1, .long 1000000), (1, .long 10000000), (1, .long 100000000), (1, .long 1000000000), (1, .long 18446744073709551580), (1, .long 19), (1, .long 36), (1, .long 9), (1, .methodref 34 66), (0, .nameAndType 67 25), (0, u "pow10"), (0, .methodref 34 69), (0, .nameAndType 70 71), (0, u "at"), (0, u "([JI)J"), (0, .long 223372036), (1, .long 854775807), (1, .long 1000000000000000000), (3, u "law"), (0, u "(JIJII)Z")] 5

def k1m0 : Method := { name := "<init>", desc := "()V", sig := { parameters := [], returnType := none }, accessFlags := 1, code := none }
def k1c1 : Code := { maxStack := 14, maxLocals := 23, code := code, exceptionTable := #[], attributes := #[] }
def k1m1 : Method := { name := "law", desc := "(JIJII)Z", sig := { parameters := [.long, .int, .long, .int, .int], returnType := some .boolean }, accessFlags := 9, code := some k1c1 }
def k1c2 : Code := { maxStack := 5, maxLocals := 2, code := method_3_code, exceptionTable := #[], attributes := #[] }
def k1m2 : Method := { name := "pow10", desc := "(I)J", sig := { parameters := [.int], returnType := some .long }, accessFlags := 10, code := some k1c2 }
def k1c3 : Code := { maxStack := 2, maxLocals := 2, code := method_4_code, exceptionTable := #[], attributes := #[] }
def k1m3 : Method := { name := "at", desc := "([JI)J", sig := { parameters := [(.array .long), .int], returnType := some .long }, accessFlags := 10, code := some k1c3 }
def k1c4 : Code := { maxStack := 8, maxLocals := 29, code := method_5_code, exceptionTable := #[], attributes := #[] }
def k1m4 : Method := { name := "expected", desc := "(JJJJJ)J", sig := { parameters := [.long, .long, .long, .long, .long], returnType := some .long }, accessFlags := 10, code := some k1c4 }
/-- com/example/planwright/planwright/service/testing/PercentageQuotientKeyPinLaw -/
def k1 : Class := { plain "com/example/planwright/planwright/service/testing/PercentageQuotientKeyPinLaw" (some 0) with
  accessFlags := 49
  interfaces := #[]
  cf := some (fileOf pool1 34 #[] #[{ accessFlags := 1, nameIndex := 5, descriptorIndex := 6, attributes := #[] }, { accessFlags := 9, nameIndex := 80, descriptorIndex := 81, attributes := #[] }, { accessFlags := 10, nameIndex := 67, descriptorIndex := 25, attributes := #[] }, { accessFlags := 10, nameIndex := 70, descriptorIndex := 71, attributes := #[] }, { accessFlags := 10, nameIndex := 37, descriptorIndex := 38, attributes := #[] }] 49 2 #[] #[])
  fields := #[]
  methods := #[k1m0, k1m1, k1m2, k1m3, k1m4]
  instanceTypes := #[]
  staticTypes := #[]
  resolved := Array.replicate 87 none
  statics := none }

def pool2 : Array CpInfo := pool [(1, .class_ 2), (0, u "com/example/planwright/planwright/service/testing/PercentageQuotient"), (0, .methodref 4 5), (0, .class_ 6), (0, .nameAndType 7 8), (0, u "java/lang/Object"), (0, u "<init>"), (0, u "()V"), (0, .fieldref 1 10), (0, .nameAndType 11 12), (0, u "limbs"), (0, u "[J"), (5, u "()I"), (6, u "scale"), (2, u "divide"), (0, u "(JIJI)Z"), (0, .fieldref 1 31), (0, .nameAndType 32 12), (0, u "POWERS_OF_TEN"), (0, .long 100), (1, .methodref 1 36), (0, .nameAndType 37 38), (0, u "workOut"), (0, u "(JJ)I"), (2, .long 18446744071562067968), (1, .long 2147483647), (1, .fieldref 1 46), (0, .nameAndType 25 47), (0, u "I"), (1, .class_ 51), (1, u "java/lang/Math"), (2, .methodref 1 55), (0, .nameAndType 56 57), (0, u "digits"), (0, u "(J)I"), (0, .long 1000000000), (37, .long 37), (1, .long 18), (1, .long 9223372036854775807), (1, .long 18446744073709551598), (1, .methodref 49 105), (0, .nameAndType 106 107), (0, u "min"), (0, u "(II)I"), (0, .fieldref 109 110), (0, .class_ 111), (0, .nameAndType 112 47), (0, u "com/example/planwright/planwright/model/WorkingPrecision"), (0, u "DIGITS"), (0, .methodref 1 114), (0, .nameAndType 115 116), (0, u "shiftIn"), (0, u "(JJ)V"), (0, .long 10), (1, .methodref 1 120), (0, .nameAndType 121 122), (0, u "shiftOut"), (0, u "(J)V"), (0, .long 2), (37, u "LIMBS"), (2, u "LIMB_DIGITS"), (1, u "LIMB"), (0, u "J"), (0, u "TWO_LIMBS"), (0, u "LONG_DIGITS"), (1, u "MAX_AMOUNT_DIGITS"), (1, u "MAX_PAY_DIGITS"), (6, u "(I)J"), (0, u "limb"), (2, u "key")] 3

def k2c0 : Code := { maxStack := 2, maxLocals := 1, code := prog_132_method_1_code, exceptionTable := #[], attributes := #[] }
def k2m0 : Method := { name := "<init>", desc := "()V", sig := { parameters := [], returnType := none }, accessFlags := 0, code := some k2c0 }
def k2c1 : Code := { maxStack := 5, maxLocals := 12, code := prog_132_method_3_code, exceptionTable := #[], attributes := #[] }
def k2m1 : Method := { name := "divide", desc := "(JIJI)Z", sig := { parameters := [.long, .int, .long, .int], returnType := some .boolean }, accessFlags := 0, code := some k2c1 }
def k2c2 : Code := { maxStack := 2, maxLocals := 2, code := prog_132_method_5_code, exceptionTable := #[], attributes := #[] }
def k2m2 : Method := { name := "limb", desc := "(I)J", sig := { parameters := [.int], returnType := some .long }, accessFlags := 0, code := some k2c2 }
def k2c3 : Code := { maxStack := 1, maxLocals := 1, code := prog_132_method_6_code, exceptionTable := #[], attributes := #[] }
def k2m3 : Method := { name := "scale", desc := "()I", sig := { parameters := [], returnType := some .int }, accessFlags := 0, code := some k2c3 }
def k2c4 : Code := { maxStack := 6, maxLocals := 14, code := prog_132_method_9_code, exceptionTable := #[], attributes := #[] }
def k2m4 : Method := { name := "key", desc := "(I)J", sig := { parameters := [.int], returnType := some .long }, accessFlags := 0, code := some k2c4 }
def k2c5 : Code := { maxStack := 6, maxLocals := 17, code := prog_132_method_10_code, exceptionTable := #[], attributes := #[] }
def k2m5 : Method := { name := "workOut", desc := "(JJ)I", sig := { parameters := [.long, .long], returnType := some .int }, accessFlags := 2, code := some k2c5 }
def k2c6 : Code := { maxStack := 6, maxLocals := 10, code := prog_132_method_11_code, exceptionTable := #[], attributes := #[] }
def k2m6 : Method := { name := "shiftIn", desc := "(JJ)V", sig := { parameters := [.long, .long], returnType := none }, accessFlags := 2, code := some k2c6 }
def k2c7 : Code := { maxStack := 6, maxLocals := 8, code := prog_132_method_12_code, exceptionTable := #[], attributes := #[] }
def k2m7 : Method := { name := "shiftOut", desc := "(J)V", sig := { parameters := [.long], returnType := none }, accessFlags := 2, code := some k2c7 }
def k2c8 : Code := { maxStack := 4, maxLocals := 3, code := prog_132_method_14_code, exceptionTable := #[], attributes := #[] }
def k2m8 : Method := { name := "digits", desc := "(J)I", sig := { parameters := [.long], returnType := some .int }, accessFlags := 10, code := some k2c8 }
/-- com/example/planwright/planwright/service/testing/PercentageQuotient -/
def k2 : Class := { plain "com/example/planwright/planwright/service/testing/PercentageQuotient" (some 0) with
  accessFlags := 32
  interfaces := #[]
  cf := some (fileOf pool2 1 #[] #[{ accessFlags := 0, nameIndex := 7, descriptorIndex := 8, attributes := #[] }, { accessFlags := 0, nameIndex := 28, descriptorIndex := 29, attributes := #[] }, { accessFlags := 0, nameIndex := 181, descriptorIndex := 180, attributes := #[] }, { accessFlags := 0, nameIndex := 25, descriptorIndex := 18, attributes := #[] }, { accessFlags := 0, nameIndex := 184, descriptorIndex := 180, attributes := #[] }, { accessFlags := 2, nameIndex := 37, descriptorIndex := 38, attributes := #[] }, { accessFlags := 2, nameIndex := 115, descriptorIndex := 116, attributes := #[] }, { accessFlags := 2, nameIndex := 121, descriptorIndex := 122, attributes := #[] }, { accessFlags := 10, nameIndex := 56, descriptorIndex := 57, attributes := #[] }] 32 4 #[] #[{ accessFlags := 24, nameIndex := 161, descriptorIndex := 47, attributes := #[] }, { accessFlags := 24, nameIndex := 164, descriptorIndex := 47, attributes := #[] }, { accessFlags := 26, nameIndex := 166, descriptorIndex := 167, attributes := #[] }, { accessFlags := 26, nameIndex := 168, descriptorIndex := 167, attributes := #[] }, { accessFlags := 26, nameIndex := 169, descriptorIndex := 47, attributes := #[] }, { accessFlags := 26, nameIndex := 171, descriptorIndex := 47, attributes := #[] }, { accessFlags := 26, nameIndex := 173, descriptorIndex := 47, attributes := #[] }, { accessFlags := 26, nameIndex := 32, descriptorIndex := 12, attributes := #[] }, { accessFlags := 18, nameIndex := 11, descriptorIndex := 12, attributes := #[] }, { accessFlags := 2, nameIndex := 25, descriptorIndex := 47, attributes := #[] }])
  fields := #[{ name := "LIMBS", type := .int, accessFlags := 24, slot := 0, constantValue := 0 }, { name := "LIMB_DIGITS", type := .int, accessFlags := 24, slot := 1, constantValue := 0 }, { name := "LIMB", type := .long, accessFlags := 26, slot := 2, constantValue := 0 }, { name := "TWO_LIMBS", type := .long, accessFlags := 26, slot := 3, constantValue := 0 }, { name := "LONG_DIGITS", type := .int, accessFlags := 26, slot := 4, constantValue := 0 }, { name := "MAX_AMOUNT_DIGITS", type := .int, accessFlags := 26, slot := 5, constantValue := 0 }, { name := "MAX_PAY_DIGITS", type := .int, accessFlags := 26, slot := 6, constantValue := 0 }, { name := "POWERS_OF_TEN", type := (.array .long), accessFlags := 26, slot := 7, constantValue := 0 }, { name := "limbs", type := (.array .long), accessFlags := 18, slot := 0, constantValue := 0 }, { name := "scale", type := .int, accessFlags := 2, slot := 1, constantValue := 0 }]
  methods := #[k2m0, k2m1, k2m2, k2m3, k2m4, k2m5, k2m6, k2m7, k2m8]
  instanceTypes := #[(.array .long), .int]
  staticTypes := #[.int, .int, .long, .long, .int, .int, .int, (.array .long)]
  resolved := Array.replicate 188 none
  statics := some 0 }

def pool3 : Array CpInfo := pool [(1, .class_ 2), (0, u "java/lang/Math"), (1, .class_ 6), (1, u "java/lang/Object"), (0, u "<init>"), (0, u "()V"), (89, .class_ 100), (1, u "java/lang/Math$RandomNumberGeneratorHolder"), (71, u "negativeZeroFloatBits"), (0, u "J"), (2, u "negativeZeroDoubleBits"), (24, u "min"), (43, u "$assertionsDisabled"), (0, u "Z"), (88, u "(II)I"), (2, u "twoToTheDoubleScaleDown"), (0, u "D"), (4, u "twoToTheDoubleScaleUp"), (9, u "E"), (3, u "PI"), (2, u "TAU"), (2, u "DEGREES_TO_RADIANS"), (0, u "RADIANS_TO_DEGREES")] 94

def k3m0 : Method := { name := "<init>", desc := "()V", sig := { parameters := [], returnType := none }, accessFlags := 2, code := none }
def k3c1 : Code := { maxStack := 2, maxLocals := 2, code := jdk_29_method_69_code, exceptionTable := #[], attributes := #[] }
def k3m1 : Method := { name := "min", desc := "(II)I", sig := { parameters := [.int, .int], returnType := some .int }, accessFlags := 9, code := some k3c1 }
/-- java/lang/Math -/
def k3 : Class := { plain "java/lang/Math" (some 0) with
  accessFlags := 49
  interfaces := #[]
  cf := some (fileOf pool3 1 #[.nestMembers #[98]] #[{ accessFlags := 2, nameIndex := 7, descriptorIndex := 8, attributes := #[] }, { accessFlags := 9, nameIndex := 201, descriptorIndex := 335, attributes := #[] }] 49 4 #[] #[{ accessFlags := 25, nameIndex := 354, descriptorIndex := 339, attributes := #[] }, { accessFlags := 25, nameIndex := 358, descriptorIndex := 339, attributes := #[] }, { accessFlags := 25, nameIndex := 361, descriptorIndex := 339, attributes := #[] }, { accessFlags := 26, nameIndex := 364, descriptorIndex := 339, attributes := #[] }, { accessFlags := 26, nameIndex := 365, descriptorIndex := 339, attributes := #[] }, { accessFlags := 26, nameIndex := 172, descriptorIndex := 173, attributes := #[] }, { accessFlags := 26, nameIndex := 176, descriptorIndex := 173, attributes := #[] }, { accessFlags := 8, nameIndex := 344, descriptorIndex := 339, attributes := #[] }, { accessFlags := 8, nameIndex := 338, descriptorIndex := 339, attributes := #[] }, { accessFlags := 4120, nameIndex := 245, descriptorIndex := 246, attributes := #[] }])
  fields := #[{ name := "E", type := .double, accessFlags := 25, slot := 0, constantValue := 0 }, { name := "PI", type := .double, accessFlags := 25, slot := 1, constantValue := 0 }, { name := "TAU", type := .double, accessFlags := 25, slot := 2, constantValue := 0 }, { name := "DEGREES_TO_RADIANS", type := .double, accessFlags := 26, slot := 3, constantValue := 0 }, { name := "RADIANS_TO_DEGREES", type := .double, accessFlags := 26, slot := 4, constantValue := 0 }, { name := "negativeZeroFloatBits", type := .long, accessFlags := 26, slot := 5, constantValue := 0 }, { name := "negativeZeroDoubleBits", type := .long, accessFlags := 26, slot := 6, constantValue := 0 }, { name := "twoToTheDoubleScaleUp", type := .double, accessFlags := 8, slot := 7, constantValue := 0 }, { name := "twoToTheDoubleScaleDown", type := .double, accessFlags := 8, slot := 8, constantValue := 0 }, { name := "$assertionsDisabled", type := .boolean, accessFlags := 4120, slot := 9, constantValue := 0 }]
  methods := #[k3m0, k3m1]
  instanceTypes := #[]
  staticTypes := #[.double, .double, .double, .double, .double, .long, .long, .double, .double, .boolean]
  resolved := Array.replicate 460 none
  statics := none }

def pool4 : Array CpInfo := pool [(2, .class_ 4), (1, u "java/lang/Object"), (0, u "<init>"), (0, u "()V"), (5, u "Ljava/math/MathContext;"), (1, .class_ 16), (1, u "com/example/planwright/planwright/model/WorkingPrecision"), (0, u "PRECISION"), (6, u "DIGITS"), (0, u "I"), (0, u "CENTS")] 7

def k4m0 : Method := { name := "<init>", desc := "()V", sig := { parameters := [], returnType := none }, accessFlags := 2, code := none }
/-- com/example/planwright/planwright/model/WorkingPrecision -/
def k4 : Class := { plain "com/example/planwright/planwright/model/WorkingPrecision" (some 0) with
  accessFlags := 33
  interfaces := #[]
  cf := some (fileOf pool4 14 #[] #[{ accessFlags := 2, nameIndex := 5, descriptorIndex := 6, attributes := #[] }] 33 2 #[] #[{ accessFlags := 25, nameIndex := 17, descriptorIndex := 12, attributes := #[] }, { accessFlags := 25, nameIndex := 24, descriptorIndex := 25, attributes := #[] }, { accessFlags := 25, nameIndex := 26, descriptorIndex := 25, attributes := #[] }])
  fields := #[{ name := "PRECISION", type := (.object "java/math/MathContext"), accessFlags := 25, slot := 0, constantValue := 0 }, { name := "DIGITS", type := .int, accessFlags := 25, slot := 1, constantValue := 0 }, { name := "CENTS", type := .int, accessFlags := 25, slot := 2, constantValue := 0 }]
  methods := #[k4m0]
  instanceTypes := #[]
  staticTypes := #[(.object "java/math/MathContext"), .int, .int]
  resolved := Array.replicate 34 none
  statics := some 1 }

def pool5 : Array CpInfo := pool [(1, u "java/lang/Cloneable"), (0, .class_ 1), (0, u "java/lang/Object"), (0, .class_ 3)] 3

/-- java/lang/Cloneable -/
def k5 : Class := { plain "java/lang/Cloneable" (some 0) with
  accessFlags := 1537
  interfaces := #[]
  cf := some (fileOf pool5 2 #[] #[] 1537 4 #[] #[])
  fields := #[]
  methods := #[]
  instanceTypes := #[]
  staticTypes := #[]
  resolved := Array.replicate 8 none
  statics := none }

def pool6 : Array CpInfo := pool [(1, u "java/io/Serializable"), (0, .class_ 1), (0, u "java/lang/Object"), (0, .class_ 3)] 3

/-- java/io/Serializable -/
def k6 : Class := { plain "java/io/Serializable" (some 0) with
  accessFlags := 1537
  interfaces := #[]
  cf := some (fileOf pool6 2 #[] #[] 1537 4 #[] #[])
  fields := #[]
  methods := #[]
  instanceTypes := #[]
  staticTypes := #[]
  resolved := Array.replicate 8 none
  statics := none }

/-- the primitive byte -/
def k7 : Class := { plain "byte" none with kind := .primitive 'B', accessFlags := 0x411 }
/-- [B -/
def k8 : Class := { plain "[B" (some 0) with kind := .array 7 .byte, interfaces := #[5, 6], accessFlags := 1041 }

/-- the primitive int -/
def k9 : Class := { plain "int" none with kind := .primitive 'I', accessFlags := 0x411 }
/-- [I -/
def k10 : Class := { plain "[I" (some 0) with kind := .array 9 .int, interfaces := #[5, 6], accessFlags := 1041 }

/-- the primitive long -/
def k11 : Class := { plain "long" none with kind := .primitive 'J', accessFlags := 0x411 }
/-- [J -/
def k12 : Class := { plain "[J" (some 0) with kind := .array 11 .long, interfaces := #[5, 6], accessFlags := 1041 }

def heap : Heap := #[{ cls := 2, slots := #[.int 0, .int 0, .long 0, .long 0, .int 0, .int 0, .int 0, .ref 2], vm := .statics 2 },
  { cls := 4, slots := #[.null, .int 34, .int 0], vm := .statics 4 },
  { cls := 12, slots := #[.long 1, .long 10, .long 100, .long 1000, .long 10000, .long 100000, .long 1000000, .long 10000000, .long 100000000, .long 1000000000, .long 10000000000, .long 100000000000, .long 1000000000000, .long 10000000000000, .long 100000000000000, .long 1000000000000000, .long 10000000000000000, .long 100000000000000000, .long 1000000000000000000], vm := .none }]
def classes : Array Class := #[k0, k1, k2, k3, k4, k5, k6, k7, k8, k9, k10, k11, k12]
def interned : List (Array UInt16 × Addr) := []
def slotsUsed : Nat := 30
def theMethod : MethodId := ⟨1, 1⟩
def args0 : Array Value := #[.long 5, .int 3, .long 7, .int 2, .int 4]
def aboutOver (below : List Frame) : State where
  vm := { classes := classes, interned := interned.toArray }
  heap := heap
  slotsUsed := slotsUsed
  threads := #[{ frames := .invoking theMethod args0 :: below }]
def below0 : List Frame := [.native { method := ⟨0, 0⟩, args := #[] }]
def about1 : State := aboutOver below0
def p0 : Program := .bare "" "" ""
def e0 : Env := launch0.env 0 0 0
theorem w_frames : about1.frames = Frame.invoking theMethod args0 :: below0 := rfl
set_option maxRecDepth 65536 in
theorem w_args : argsFit about1.vm theMethod args0 = true := by decide +kernel
set_option maxRecDepth 65536 in
theorem w_heap : heapFits about1 = true := by decide +kernel
set_option maxRecDepth 65536 in
theorem w_runnable : about1.curStatus? = some .runnable := by decide +kernel
set_option maxRecDepth 65536 in
theorem w_alone : about1.alone = true := by decide +kernel
set_option maxRecDepth 65536 in
theorem w_named : about1.methodNamed? x = some theMethod := by decide +kernel
set_option maxRecDepth 65536 in
theorem w_hears : about1.hears theMethod below0 = true := by decide +kernel
set_option maxRecDepth 65536 in
theorem w_ripe : about1.ripe theMethod args0 below0 = true := by decide +kernel
theorem w_running : about1.status = .running := rfl
set_option maxRecDepth 65536 in
theorem w_room : about1.hasRoom e0.platform room_1 = true :=
  launch0.hasRoom_least _ room_1 (by decide +kernel) (by decide +kernel) (by decide +kernel) (by decide +kernel) (by decide +kernel) (by decide +kernel)
theorem allAtoms_all (ts : List Jvm.Cond) (a : Array Jvm.Value) (st : Jvm.State) : (allAtoms ts).before a st = ts.all (fun c => c.before a st) := by
  induction ts with
  | nil => rfl
  | cons c t ih =>
    show (Jvm.Cond.and c (allAtoms t)).before a st = _
    rw [Jvm.Cond.before_and, ih, List.all_cons]
def words1 : List Jvm.Cond := Jvm.Cond.code x code maxLocals ret :: tables_1
/-- a 'code' word, met by the world's own term for the bytes: nothing is compared byte by byte -/
theorem code_word {y : MethodName} {bytes : ByteArray} {mx : Nat} {rt : Option FieldType} {a : Array Value} {s : State} {m : MethodId} {meth : Method} {c : Code} (h1 : s.methodNamed? y = some m) (h2 : s.vm.method? m = some meth) (h3 : meth.code = some c) (h4 : c.code = bytes)
    (h5 : (c.maxLocals == mx && c.exceptionTable.isEmpty && decide (c.maxStack ≤ mostOperands) && decide (meth.sig.returnType = rt) && !meth.locks && decide (parseMethodDescriptor y.desc = some meth.sig)) = true) : (Jvm.Cond.code y bytes mx rt).before a s = true := by
  simp only [Bool.and_eq_true, beq_iff_eq, Bool.not_eq_true', decide_eq_true_eq] at h5
  obtain ⟨⟨⟨⟨⟨g1, g2⟩, g3⟩, g4⟩, g5⟩, g6⟩ := h5
  simp [Cond.before, Cond.holds, Cond.value, h1, h2, h3, h4, g1, g2, g3, g4, g5, g6]
def isCode : Jvm.Cond → Bool
  | .code _ _ _ _ => true
  | _ => false
theorem all_split {L : List Jvm.Cond} {P : Jvm.Cond → Bool} (h1 : L.all (fun c => isCode c || P c) = true) (h2 : ∀ c ∈ L.filter isCode, P c = true) : L.all P = true := by
  refine List.all_eq_true.mpr fun c hc => ?_
  have h := List.all_eq_true.mp h1 c hc
  rcases Bool.eq_false_or_eq_true (isCode c) with hi | hi
  · exact h2 c (List.mem_filter.mpr ⟨hc, hi⟩)
  · simpa [hi] using h
set_option maxRecDepth 65536 in
theorem w_c0 : (Jvm.Cond.code x code maxLocals ret).before args0 about1 = true := code_word (m := ⟨1, 1⟩) (meth := k1m1) (c := k1c1) (by decide +kernel) rfl rfl rfl (by decide +kernel)
set_option maxRecDepth 65536 in
theorem w_c1 : (Jvm.Cond.code ({ cls := "com/example/planwright/planwright/service/testing/PercentageQuotient", name := "<init>", desc := "()V" } : Jvm.MethodName) prog_132_method_1_code (1 : Nat) (Option.none : Option Jvm.ClassFile.FieldType)).before args0 about1 = true := code_word (m := ⟨2, 0⟩) (meth := k2m0) (c := k2c0) (by decide +kernel) rfl rfl rfl (by decide +kernel)
set_option maxRecDepth 65536 in
theorem w_c2 : (Jvm.Cond.code ({ cls := "java/lang/Object", name := "<init>", desc := "()V" } : Jvm.MethodName) object_method_1_code (1 : Nat) (Option.none : Option Jvm.ClassFile.FieldType)).before args0 about1 = true := code_word (m := ⟨0, 0⟩) (meth := k0m0) (c := k0c0) (by decide +kernel) rfl rfl rfl (by decide +kernel)
set_option maxRecDepth 65536 in
theorem w_c3 : (Jvm.Cond.code ({ cls := "com/example/planwright/planwright/service/testing/PercentageQuotient", name := "divide", desc := "(JIJI)Z" } : Jvm.MethodName) prog_132_method_3_code (12 : Nat) (Option.some Jvm.ClassFile.FieldType.boolean)).before args0 about1 = true := code_word (m := ⟨2, 1⟩) (meth := k2m1) (c := k2c1) (by decide +kernel) rfl rfl rfl (by decide +kernel)
set_option maxRecDepth 65536 in
theorem w_c4 : (Jvm.Cond.code ({ cls := "com/example/planwright/planwright/service/testing/PercentageQuotient", name := "workOut", desc := "(JJ)I" } : Jvm.MethodName) prog_132_method_10_code (17 : Nat) (Option.some Jvm.ClassFile.FieldType.int)).before args0 about1 = true := code_word (m := ⟨2, 5⟩) (meth := k2m5) (c := k2c5) (by decide +kernel) rfl rfl rfl (by decide +kernel)
set_option maxRecDepth 65536 in
theorem w_c5 : (Jvm.Cond.code ({ cls := "com/example/planwright/planwright/service/testing/PercentageQuotient", name := "digits", desc := "(J)I" } : Jvm.MethodName) prog_132_method_14_code (3 : Nat) (Option.some Jvm.ClassFile.FieldType.int)).before args0 about1 = true := code_word (m := ⟨2, 8⟩) (meth := k2m8) (c := k2c8) (by decide +kernel) rfl rfl rfl (by decide +kernel)
set_option maxRecDepth 65536 in
theorem w_c6 : (Jvm.Cond.code ({ cls := "java/lang/Math", name := "min", desc := "(II)I" } : Jvm.MethodName) jdk_29_method_69_code (2 : Nat) (Option.some Jvm.ClassFile.FieldType.int)).before args0 about1 = true := code_word (m := ⟨3, 1⟩) (meth := k3m1) (c := k3c1) (by decide +kernel) rfl rfl rfl (by decide +kernel)
set_option maxRecDepth 65536 in
theorem w_c7 : (Jvm.Cond.code ({ cls := "com/example/planwright/planwright/service/testing/PercentageQuotient", name := "shiftIn", desc := "(JJ)V" } : Jvm.MethodName) prog_132_method_11_code (10 : Nat) (Option.none : Option Jvm.ClassFile.FieldType)).before args0 about1 = true := code_word (m := ⟨2, 6⟩) (meth := k2m6) (c := k2c6) (by decide +kernel) rfl rfl rfl (by decide +kernel)
set_option maxRecDepth 65536 in
theorem w_c8 : (Jvm.Cond.code ({ cls := "com/example/planwright/planwright/service/testing/PercentageQuotient", name := "limb", desc := "(I)J" } : Jvm.MethodName) prog_132_method_5_code (2 : Nat) (Option.some Jvm.ClassFile.FieldType.long)).before args0 about1 = true := code_word (m := ⟨2, 2⟩) (meth := k2m2) (c := k2c2) (by decide +kernel) rfl rfl rfl (by decide +kernel)
set_option maxRecDepth 65536 in
theorem w_c9 : (Jvm.Cond.code ({ cls := "com/example/planwright/planwright/service/testing/PercentageQuotient", name := "scale", desc := "()I" } : Jvm.MethodName) prog_132_method_6_code (1 : Nat) (Option.some Jvm.ClassFile.FieldType.int)).before args0 about1 = true := code_word (m := ⟨2, 3⟩) (meth := k2m3) (c := k2c3) (by decide +kernel) rfl rfl rfl (by decide +kernel)
set_option maxRecDepth 65536 in
theorem w_c10 : (Jvm.Cond.code ({ cls := "com/example/planwright/planwright/service/testing/PercentageQuotient", name := "key", desc := "(I)J" } : Jvm.MethodName) prog_132_method_9_code (14 : Nat) (Option.some Jvm.ClassFile.FieldType.long)).before args0 about1 = true := code_word (m := ⟨2, 4⟩) (meth := k2m4) (c := k2c4) (by decide +kernel) rfl rfl rfl (by decide +kernel)
set_option maxRecDepth 65536 in
theorem w_c11 : (Jvm.Cond.code ({ cls := "com/example/planwright/planwright/service/testing/PercentageQuotientKeyPinLaw", name := "expected", desc := "(JJJJJ)J" } : Jvm.MethodName) method_5_code (29 : Nat) (Option.some Jvm.ClassFile.FieldType.long)).before args0 about1 = true := code_word (m := ⟨1, 4⟩) (meth := k1m4) (c := k1c4) (by decide +kernel) rfl rfl rfl (by decide +kernel)
set_option maxRecDepth 65536 in
theorem w_c12 : (Jvm.Cond.code ({ cls := "com/example/planwright/planwright/service/testing/PercentageQuotientKeyPinLaw", name := "pow10", desc := "(I)J" } : Jvm.MethodName) method_3_code (2 : Nat) (Option.some Jvm.ClassFile.FieldType.long)).before args0 about1 = true := code_word (m := ⟨1, 2⟩) (meth := k1m2) (c := k1c2) (by decide +kernel) rfl rfl rfl (by decide +kernel)
set_option maxRecDepth 65536 in
theorem w_c13 : (Jvm.Cond.code ({ cls := "com/example/planwright/planwright/service/testing/PercentageQuotientKeyPinLaw", name := "at", desc := "([JI)J" } : Jvm.MethodName) method_4_code (2 : Nat) (Option.some Jvm.ClassFile.FieldType.long)).before args0 about1 = true := code_word (m := ⟨1, 3⟩) (meth := k1m3) (c := k1c3) (by decide +kernel) rfl rfl rfl (by decide +kernel)
set_option maxRecDepth 65536 in
theorem w_c14 : (Jvm.Cond.code ({ cls := "com/example/planwright/planwright/service/testing/PercentageQuotient", name := "shiftOut", desc := "(J)V" } : Jvm.MethodName) prog_132_method_12_code (8 : Nat) (Option.none : Option Jvm.ClassFile.FieldType)).before args0 about1 = true := code_word (m := ⟨2, 7⟩) (meth := k2m7) (c := k2c7) (by decide +kernel) rfl rfl rfl (by decide +kernel)
def codes1 : List Jvm.Cond := [Jvm.Cond.code x code maxLocals ret, Jvm.Cond.code ({ cls := "com/example/planwright/planwright/service/testing/PercentageQuotient", name := "<init>", desc := "()V" } : Jvm.MethodName) prog_132_method_1_code (1 : Nat) (Option.none : Option Jvm.ClassFile.FieldType), Jvm.Cond.code ({ cls := "java/lang/Object", name := "<init>", desc := "()V" } : Jvm.MethodName) object_method_1_code (1 : Nat) (Option.none : Option Jvm.ClassFile.FieldType), Jvm.Cond.code ({ cls := "com/example/planwright/planwright/service/testing/PercentageQuotient", name := "divide", desc := "(JIJI)Z" } : Jvm.MethodName) prog_132_method_3_code (12 : Nat) (Option.some Jvm.ClassFile.FieldType.boolean), Jvm.Cond.code ({ cls := "com/example/planwright/planwright/service/testing/PercentageQuotient", name := "workOut", desc := "(JJ)I" } : Jvm.MethodName) prog_132_method_10_code (17 : Nat) (Option.some Jvm.ClassFile.FieldType.int), Jvm.Cond.code ({ cls := "com/example/planwright/planwright/service/testing/PercentageQuotient", name := "digits", desc := "(J)I" } : Jvm.MethodName) prog_132_method_14_code (3 : Nat) (Option.some Jvm.ClassFile.FieldType.int), Jvm.Cond.code ({ cls := "java/lang/Math", name := "min", desc := "(II)I" } : Jvm.MethodName) jdk_29_method_69_code (2 : Nat) (Option.some Jvm.ClassFile.FieldType.int), Jvm.Cond.code ({ cls := "com/example/planwright/planwright/service/testing/PercentageQuotient", name := "shiftIn", desc := "(JJ)V" } : Jvm.MethodName) prog_132_method_11_code (10 : Nat) (Option.none : Option Jvm.ClassFile.FieldType), Jvm.Cond.code ({ cls := "com/example/planwright/planwright/service/testing/PercentageQuotient", name := "limb", desc := "(I)J" } : Jvm.MethodName) prog_132_method_5_code (2 : Nat) (Option.some Jvm.ClassFile.FieldType.long), Jvm.Cond.code ({ cls := "com/example/planwright/planwright/service/testing/PercentageQuotient", name := "scale", desc := "()I" } : Jvm.MethodName) prog_132_method_6_code (1 : Nat) (Option.some Jvm.ClassFile.FieldType.int), Jvm.Cond.code ({ cls := "com/example/planwright/planwright/service/testing/PercentageQuotient", name := "key", desc := "(I)J" } : Jvm.MethodName) prog_132_method_9_code (14 : Nat) (Option.some Jvm.ClassFile.FieldType.long), Jvm.Cond.code ({ cls := "com/example/planwright/planwright/service/testing/PercentageQuotientKeyPinLaw", name := "expected", desc := "(JJJJJ)J" } : Jvm.MethodName) method_5_code (29 : Nat) (Option.some Jvm.ClassFile.FieldType.long), Jvm.Cond.code ({ cls := "com/example/planwright/planwright/service/testing/PercentageQuotientKeyPinLaw", name := "pow10", desc := "(I)J" } : Jvm.MethodName) method_3_code (2 : Nat) (Option.some Jvm.ClassFile.FieldType.long), Jvm.Cond.code ({ cls := "com/example/planwright/planwright/service/testing/PercentageQuotientKeyPinLaw", name := "at", desc := "([JI)J" } : Jvm.MethodName) method_4_code (2 : Nat) (Option.some Jvm.ClassFile.FieldType.long), Jvm.Cond.code ({ cls := "com/example/planwright/planwright/service/testing/PercentageQuotient", name := "shiftOut", desc := "(J)V" } : Jvm.MethodName) prog_132_method_12_code (8 : Nat) (Option.none : Option Jvm.ClassFile.FieldType)]
set_option maxRecDepth 65536 in
theorem codes_eq : words1.filter isCode = codes1 := rfl
theorem w_codes : ∀ c ∈ words1.filter isCode, c.before args0 about1 = true := by
  rw [codes_eq]
  intro c hc
  simp only [codes1, List.mem_cons, List.not_mem_nil, or_false] at hc
  rcases hc with rfl | rfl | rfl | rfl | rfl | rfl | rfl | rfl | rfl | rfl | rfl | rfl | rfl | rfl | rfl
  · exact w_c0
  · exact w_c1
  · exact w_c2
  · exact w_c3
  · exact w_c4
  · exact w_c5
  · exact w_c6
  · exact w_c7
  · exact w_c8
  · exact w_c9
  · exact w_c10
  · exact w_c11
  · exact w_c12
  · exact w_c13
  · exact w_c14
set_option maxRecDepth 65536 in
theorem w_t1 : (words1.take 24).all (fun c => isCode c || c.before args0 about1) = true := by decide +kernel
set_option maxRecDepth 65536 in
theorem w_t2 : ((words1.drop 24).take 24).all (fun c => isCode c || c.before args0 about1) = true := by decide +kernel
set_option maxRecDepth 65536 in
theorem w_t3 : (((words1.drop 24).drop 24).take 24).all (fun c => isCode c || c.before args0 about1) = true := by decide +kernel
set_option maxRecDepth 65536 in
theorem w_t4 : ((((words1.drop 24).drop 24).drop 24).take 24).all (fun c => isCode c || c.before args0 about1) = true := by decide +kernel
set_option maxRecDepth 65536 in
theorem w_t5 : ((((words1.drop 24).drop 24).drop 24).drop 24).all (fun c => isCode c || c.before args0 about1) = true := by decide +kernel
theorem w_tables : (allAtoms (Jvm.Cond.code x code maxLocals ret :: tables_1)).before args0 about1 = true := by
  rw [allAtoms_all]
  show words1.all (fun c => c.before args0 about1) = true
  refine all_split ?_ w_codes
  rw [← List.take_append_drop 24 words1, List.all_append, w_t1, ← List.take_append_drop 24 (words1.drop 24), List.all_append, w_t2, ← List.take_append_drop 24 ((words1.drop 24).drop 24), List.all_append, w_t3, ← List.take_append_drop 24 (((words1.drop 24).drop 24).drop 24), List.all_append, w_t4, w_t5]
  rfl
set_option maxRecDepth 65536 in
theorem w_case : (Jvm.Cond.and given_1 narrow_1).before args0 about1 = true := by decide +kernel
theorem w_applies : (headSpec (Jvm.Cond.code x code maxLocals ret :: tables_1) room_1).applies x e0.platform about1 = true :=
  (Spec.applies_iff w_frames).mpr ⟨w_running, w_runnable, w_alone, w_named, w_hears, w_ripe, w_room, w_tables⟩
theorem atStart : AtStart classFile x code maxLocals ret World_1 tables_1 room_1 Calls_1 rest_1 Pre_1 launch0 p0 e0 about1 theMethod args0 below0 :=
  ⟨lists_1, trivial, launch0.admits_env _ _ _, launch0.least_env, fairChoices_fair.cas, fairChoices_fair.clock, w_frames, w_args, w_heap, w_applies, trivial, trivial, w_case⟩
end start1
theorem witness_1 : WitnessClaimed_1 := ⟨start1.p0, start1.e0, start1.about1, start1.theMethod, start1.args0, start1.below0, start1.atStart⟩
end Jvm.Pilot.@@N@@
