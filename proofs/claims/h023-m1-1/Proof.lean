import JvmDerived
import JvmDerived.Pilot.@@N@@Statement
import JvmDerived.Pilot.@@N@@Code
set_option linter.unusedVariables false
set_option linter.unusedSimpArgs false
namespace Jvm.RoadKit
open Sem ClassFile Op Lib Jvm.Stand Jvm.Free Jvm.LawKit
section Own
variable {p : Program} {l : Launch} {e : Env} {R : Room} {s : State} {m : MethodId} {args : Array Value} {below : List Frame} {meth : Method} {c : Code} {Z : State} {a0 : Array Value}
/-- what a body's walk stands on -/
def OC (p : Program) (s : State) (m : MethodId) (meth : Method) (c : Code) (Z : State) (own nm : String) (bytes : ByteArray) (ml : Nat) (ret : Option FieldType) : Prop :=
  p.tables.exec = Jvm.exec ∧ c.code = bytes ∧ Z.Warmed39 s.vm ∧ s.vm.findClass own = some m.cls ∧ c.maxLocals = ml ∧ meth.sig.returnType = ret ∧ meth.locks = false ∧ meth.name = nm
/-- where the walk stands: the heap, what has been made, what has been written -/
def OS (p : Program) (l : Launch) (e : Env) (R : Room) (s : State) (m : MethodId) (args : Array Value) (below : List Frame) (meth : Method) (c : Code) (n0 : Nat) (h : Heap) (cl sl : Nat) (T : State) (locs : List Loc) : Prop :=
  Stand p l e R s m args below meth c T locs cl sl ∧ Fr n0 locs ∧ T.heap = h ∧ cl ≤ R.cells ∧ sl ≤ R.slots
/-- a run that leaves the heap as it is: from the frame g to the frame g' -/
def OG (p : Program) (l : Launch) (e : Env) (R : Room) (s : State) (m : MethodId) (args : Array Value) (below : List Frame) (meth : Method) (c : Code) (n0 : Nat) (h : Heap) (g g' : JFrame) : Prop :=
  ∀ T locs cl sl, OS p l e R s m args below meth c n0 h cl sl T locs →
    ∃ T' locs', OS p l e R s m args below meth c n0 h cl sl T' locs' ∧ ∀ target, Steps p.tables e below (T'.setTop g') target → Steps p.tables e below (T.setTop g) target
/-- what is left to run from the frame g: it returns, and Q holds of what it returns and of the heap -/
def OW (p : Program) (l : Launch) (e : Env) (R : Room) (s : State) (m : MethodId) (args : Array Value) (below : List Frame) (meth : Method) (c : Code) (n0 : Nat) (Q : Option Value → Heap → Prop) (K N : Nat) (h : Heap) (cl sl : Nat) (g : JFrame) : Prop :=
  ∀ T locs, OS p l e R s m args below meth c n0 h cl sl T locs →
    ∃ s₂ o, Steps p.tables e below (T.setTop g) s₂ ∧ s₂.status = .running ∧ Ended s₂ below o ∧ ∃ v L, o = .returned v ∧ (Q v s₂.heap ∧ Fr n0 L) ∧ FrameEnd s o s₂ L K N
variable {own nm : String} {bytes : ByteArray} {ml n0 K N : Nat} {ret : Option FieldType} {Q : Option Value → Heap → Prop} {h : Heap} {cl sl : Nat} {g g' g'' : JFrame} {pc pc' : Nat} {ls ls' : Array Slot} {st : List Value}
theorem OG.refl : OG p l e R s m args below meth c n0 h g g := fun T locs _ _ X => ⟨T, locs, X, fun _ k => k⟩
theorem OG.trans (A : OG p l e R s m args below meth c n0 h g g') (B : OG p l e R s m args below meth c n0 h g' g'') : OG p l e R s m args below meth c n0 h g g'' := fun T locs cl sl X => by
  obtain ⟨T1, L1, X1, k1⟩ := A T locs cl sl X
  obtain ⟨T2, L2, X2, k2⟩ := B T1 L1 cl sl X1
  exact ⟨T2, L2, X2, fun t k => k1 t (k2 t k)⟩
theorem OG.ow (A : OG p l e R s m args below meth c n0 h g g') (B : OW p l e R s m args below meth c n0 Q K N h cl sl g') : OW p l e R s m args below meth c n0 Q K N h cl sl g := fun T locs X => by
  obtain ⟨T1, L1, X1, k1⟩ := A T locs cl sl X
  obtain ⟨s₂, o, q, r⟩ := B T1 L1 X1
  exact ⟨s₂, o, k1 _ q, r⟩
theorem OG.cast (A : OG p l e R s m args below meth c n0 h g g') (q : g' = g'') : OG p l e R s m args below meth c n0 h g g'' := q ▸ A
theorem OW.cast (q : g = g') (A : OW p l e R s m args below meth c n0 Q K N h cl sl g') : OW p l e R s m args below meth c n0 Q K N h cl sl g := q ▸ A
theorem OW.more {cl' sl' : Nat} (A : OW p l e R s m args below meth c n0 Q K N h cl' sl' g) (q1 : cl ≤ cl') (q2 : sl ≤ sl') (q3 : cl' ≤ R.cells) (q4 : sl' ≤ R.slots) : OW p l e R s m args below meth c n0 Q K N h cl sl g := fun T locs X => A T locs ⟨X.1.more q1 q2, X.2.1, X.2.2.1, q3, q4⟩
/-- the two arms of a branch meet -/
theorem OG.ite {α : Type} {P : Prop} [Decidable P] {f : α → JFrame} {x y : α} (A : P → OG p l e R s m args below meth c n0 h g (f x)) (B : ¬ P → OG p l e R s m args below meth c n0 h g (f y)) : OG p l e R s m args below meth c n0 h g (f (if P then x else y)) := by
  by_cases q : P
  · rw [if_pos q]; exact A q
  · rw [if_neg q]; exact B q
theorem OG.of (k : ∀ (s' : State) T locs cl sl, Stand p l e R s' m args below meth c T locs cl sl → ∀ target, Steps p.tables e below (T.setTop g') target → Steps p.tables e below (T.setTop g) target) : OG p l e R s m args below meth c n0 h g g' :=
  fun T locs _ _ X => ⟨T, locs, X, k _ T locs _ _ X.1⟩
theorem OC.d (C : OC p s m meth c Z own nm bytes ml ret) {r : Except DecodeError (Instr × Nat)} (q : decode bytes pc = r) : decode c.code pc = r := by rw [C.2.1]; exact q
theorem own_fr {x z : Int32} (q : x = z) : mkF m pc ls (.int x :: st) = mkF m pc ls (.int z :: st) := by rw [q]
theorem OG.ite0 {P : Prop} [Decidable P] (A : P → OG p l e R s m args below meth c n0 h g g') (B : ¬ P → OG p l e R s m args below meth c n0 h g g') : OG p l e R s m args below meth c n0 h g g' := by
  by_cases q : P
  · exact A q
  · exact B q
theorem OG.ite2 {α β : Type} {P : Prop} [Decidable P] {f : α → β → JFrame} {x y : α} {x' y' : β} (A : P → OG p l e R s m args below meth c n0 h g (f x x')) (B : ¬ P → OG p l e R s m args below meth c n0 h g (f y y')) : OG p l e R s m args below meth c n0 h g (f (if P then x else y) (if P then x' else y')) := by
  by_cases q : P
  · rw [if_pos q, if_pos q]; exact A q
  · rw [if_neg q, if_neg q]; exact B q
theorem OG.iloadN (C : OC p s m meth c Z own nm bytes ml ret) {k : Fin 4} {v : Int32} (hd : decode bytes pc = .ok (.iload_n k, 1)) (hl : ls[k.val]? = some (.val (.int v))) (hp : pc + 1 = pc') : OG p l e R s m args below meth c n0 h (mkF m pc ls st) (mkF m pc' ls (.int v :: st)) := by
  subst hp
  exact OG.of fun s' T locs cl sl X target k => XS.iloadN X.here C.1 rfl (C.d hd) hl k
theorem OG.iload (C : OC p s m meth c Z own nm bytes ml ret) {k : Nat} {v : Int32} (hd : decode bytes pc = .ok (.iload k, 2)) (hl : ls[k]? = some (.val (.int v))) (hp : pc + 2 = pc') : OG p l e R s m args below meth c n0 h (mkF m pc ls st) (mkF m pc' ls (.int v :: st)) := by
  subst hp
  exact OG.of fun s' T locs cl sl X target k => XS.iload X.here C.1 rfl (C.d hd) hl k
theorem OG.lloadN (C : OC p s m meth c Z own nm bytes ml ret) {k : Fin 4} {v : Int64} (hd : decode bytes pc = .ok (.lload_n k, 1)) (hl : ls[k.val]? = some (.val (.long v))) (hp : pc + 1 = pc') : OG p l e R s m args below meth c n0 h (mkF m pc ls st) (mkF m pc' ls (.long v :: st)) := by
  subst hp
  exact OG.of fun s' T locs cl sl X target k => XS.lloadN X.here C.1 rfl (C.d hd) hl k
theorem OG.lload (C : OC p s m meth c Z own nm bytes ml ret) {k : Nat} {v : Int64} (hd : decode bytes pc = .ok (.lload k, 2)) (hl : ls[k]? = some (.val (.long v))) (hp : pc + 2 = pc') : OG p l e R s m args below meth c n0 h (mkF m pc ls st) (mkF m pc' ls (.long v :: st)) := by
  subst hp
  exact OG.of fun s' T locs cl sl X target k => XS.lload X.here C.1 rfl (C.d hd) hl k
theorem OG.aloadN (C : OC p s m meth c Z own nm bytes ml ret) {k : Fin 4} {v : Value} (hd : decode bytes pc = .ok (.aload_n k, 1)) (hl : ls[k.val]? = some (.val v)) (hv : v.isRef = true) (hp : pc + 1 = pc') : OG p l e R s m args below meth c n0 h (mkF m pc ls st) (mkF m pc' ls (v :: st)) := by
  subst hp
  exact OG.of fun s' T locs cl sl X target k => XS.aloadN X.here C.1 rfl (C.d hd) hl hv k
theorem OG.aload (C : OC p s m meth c Z own nm bytes ml ret) {k : Nat} {v : Value} (hd : decode bytes pc = .ok (.aload k, 2)) (hl : ls[k]? = some (.val v)) (hv : v.isRef = true) (hp : pc + 2 = pc') : OG p l e R s m args below meth c n0 h (mkF m pc ls st) (mkF m pc' ls (v :: st)) := by
  subst hp
  exact OG.of fun s' T locs cl sl X target k => XS.aload X.here C.1 rfl (C.d hd) hl hv k
theorem OG.istoreN (C : OC p s m meth c Z own nm bytes ml ret) {k : Fin 4} {v : Int32} (hd : decode bytes pc = .ok (.istore_n k, 1)) (hl : storeLocals ls k.val (.int v) = some ls') (hp : pc + 1 = pc') : OG p l e R s m args below meth c n0 h (mkF m pc ls (.int v :: st)) (mkF m pc' ls' st) := by
  subst hp
  exact OG.of fun s' T locs cl sl X target k => XS.istoreN X.here C.1 rfl (C.d hd) rfl hl k
theorem OG.istore (C : OC p s m meth c Z own nm bytes ml ret) {k : Nat} {v : Int32} (hd : decode bytes pc = .ok (.istore k, 2)) (hl : storeLocals ls k (.int v) = some ls') (hp : pc + 2 = pc') : OG p l e R s m args below meth c n0 h (mkF m pc ls (.int v :: st)) (mkF m pc' ls' st) := by
  subst hp
  exact OG.of fun s' T locs cl sl X target k => XS.istore X.here C.1 rfl (C.d hd) rfl hl k
theorem OG.lstoreN (C : OC p s m meth c Z own nm bytes ml ret) {k : Fin 4} {v : Int64} (hd : decode bytes pc = .ok (.lstore_n k, 1)) (hl : storeLocals ls k.val (.long v) = some ls') (hp : pc + 1 = pc') : OG p l e R s m args below meth c n0 h (mkF m pc ls (.long v :: st)) (mkF m pc' ls' st) := by
  subst hp
  exact OG.of fun s' T locs cl sl X target k => XS.lstoreN X.here C.1 rfl (C.d hd) rfl hl k
theorem OG.lstore (C : OC p s m meth c Z own nm bytes ml ret) {k : Nat} {v : Int64} (hd : decode bytes pc = .ok (.lstore k, 2)) (hl : storeLocals ls k (.long v) = some ls') (hp : pc + 2 = pc') : OG p l e R s m args below meth c n0 h (mkF m pc ls (.long v :: st)) (mkF m pc' ls' st) := by
  subst hp
  exact OG.of fun s' T locs cl sl X target k => XS.lstore X.here C.1 rfl (C.d hd) rfl hl k
theorem OG.astoreN (C : OC p s m meth c Z own nm bytes ml ret) {k : Fin 4} {v : Value} (hd : decode bytes pc = .ok (.astore_n k, 1)) (hv : v.isRef = true) (hl : storeLocals ls k.val v = some ls') (hp : pc + 1 = pc') : OG p l e R s m args below meth c n0 h (mkF m pc ls (v :: st)) (mkF m pc' ls' st) := by
  subst hp
  exact OG.of fun s' T locs cl sl X target k => XS.astoreN X.here C.1 rfl (C.d hd) rfl hv hl k
theorem OG.astore (C : OC p s m meth c Z own nm bytes ml ret) {k : Nat} {v : Value} (hd : decode bytes pc = .ok (.astore k, 2)) (hv : v.isRef = true) (hl : storeLocals ls k v = some ls') (hp : pc + 2 = pc') : OG p l e R s m args below meth c n0 h (mkF m pc ls (v :: st)) (mkF m pc' ls' st) := by
  subst hp
  exact OG.of fun s' T locs cl sl X target k => XS.astore X.here C.1 rfl (C.d hd) rfl hv hl k
theorem OG.iconst (C : OC p s m meth c Z own nm bytes ml ret) {i : Int} {z : Int32} (hd : decode bytes pc = .ok (.iconst i, 1)) (hz : Int32.ofInt i = z) (hp : pc + 1 = pc') : OG p l e R s m args below meth c n0 h (mkF m pc ls st) (mkF m pc' ls (.int z :: st)) := by
  subst hp hz
  exact OG.of fun s' T locs cl sl X target k => XS.iconst X.here C.1 rfl (C.d hd)  k
theorem OG.bipush (C : OC p s m meth c Z own nm bytes ml ret) {i : Int} {z : Int32} (hd : decode bytes pc = .ok (.bipush i, 2)) (hz : (Int8.ofInt i).toInt32 = z) (hp : pc + 2 = pc') : OG p l e R s m args below meth c n0 h (mkF m pc ls st) (mkF m pc' ls (.int z :: st)) := by
  subst hp hz
  exact OG.of fun s' T locs cl sl X target k => XS.bipush X.here C.1 rfl (C.d hd)  k
theorem OG.sipush (C : OC p s m meth c Z own nm bytes ml ret) {i : Int} {z : Int32} (hd : decode bytes pc = .ok (.sipush i, 3)) (hz : (Int16.ofInt i).toInt32 = z) (hp : pc + 3 = pc') : OG p l e R s m args below meth c n0 h (mkF m pc ls st) (mkF m pc' ls (.int z :: st)) := by
  subst hp hz
  exact OG.of fun s' T locs cl sl X target k => XS.sipush X.here C.1 rfl (C.d hd)  k
theorem OG.lconst (C : OC p s m meth c Z own nm bytes ml ret) {i : Fin 2} {z : Int64} (hd : decode bytes pc = .ok (.lconst i, 1)) (hz : Int64.ofNat i = z) (hp : pc + 1 = pc') : OG p l e R s m args below meth c n0 h (mkF m pc ls st) (mkF m pc' ls (.long z :: st)) := by
  subst hp hz
  exact OG.of fun s' T locs cl sl X target k => XS.lconst X.here C.1 rfl (C.d hd)  k
theorem OG.aconst_null (C : OC p s m meth c Z own nm bytes ml ret)  (hd : decode bytes pc = .ok (.aconst_null, 1))  (hp : pc + 1 = pc') : OG p l e R s m args below meth c n0 h (mkF m pc ls st) (mkF m pc' ls (.null :: st)) := by
  subst hp
  exact OG.of fun s' T locs cl sl X target k => XS.aconstNull X.here C.1 rfl (C.d hd)  k
theorem OG.iadd (C : OC p s m meth c Z own nm bytes ml ret) {x y : Int32} (hd : decode bytes pc = .ok (.iadd, 1))  (hp : pc + 1 = pc') : OG p l e R s m args below meth c n0 h (mkF m pc ls (.int y :: .int x :: st)) (mkF m pc' ls (.int (x + y) :: st)) := by
  subst hp
  exact OG.of fun s' T locs cl sl X target k => XS.iadd X.here C.1 rfl (C.d hd) rfl k
theorem OG.ladd (C : OC p s m meth c Z own nm bytes ml ret) {x y : Int64} (hd : decode bytes pc = .ok (.ladd, 1))  (hp : pc + 1 = pc') : OG p l e R s m args below meth c n0 h (mkF m pc ls (.long y :: .long x :: st)) (mkF m pc' ls (.long (x + y) :: st)) := by
  subst hp
  exact OG.of fun s' T locs cl sl X target k => XS.ladd X.here C.1 rfl (C.d hd) rfl k
theorem OG.isub (C : OC p s m meth c Z own nm bytes ml ret) {x y : Int32} (hd : decode bytes pc = .ok (.isub, 1))  (hp : pc + 1 = pc') : OG p l e R s m args below meth c n0 h (mkF m pc ls (.int y :: .int x :: st)) (mkF m pc' ls (.int (x - y) :: st)) := by
  subst hp
  exact OG.of fun s' T locs cl sl X target k => XS.isub X.here C.1 rfl (C.d hd) rfl k
theorem OG.lsub (C : OC p s m meth c Z own nm bytes ml ret) {x y : Int64} (hd : decode bytes pc = .ok (.lsub, 1))  (hp : pc + 1 = pc') : OG p l e R s m args below meth c n0 h (mkF m pc ls (.long y :: .long x :: st)) (mkF m pc' ls (.long (x - y) :: st)) := by
  subst hp
  exact OG.of fun s' T locs cl sl X target k => XS.lsub X.here C.1 rfl (C.d hd) rfl k
theorem OG.imul (C : OC p s m meth c Z own nm bytes ml ret) {x y : Int32} (hd : decode bytes pc = .ok (.imul, 1))  (hp : pc + 1 = pc') : OG p l e R s m args below meth c n0 h (mkF m pc ls (.int y :: .int x :: st)) (mkF m pc' ls (.int (x * y) :: st)) := by
  subst hp
  exact OG.of fun s' T locs cl sl X target k => XS.imul X.here C.1 rfl (C.d hd) rfl k
theorem OG.lmul (C : OC p s m meth c Z own nm bytes ml ret) {x y : Int64} (hd : decode bytes pc = .ok (.lmul, 1))  (hp : pc + 1 = pc') : OG p l e R s m args below meth c n0 h (mkF m pc ls (.long y :: .long x :: st)) (mkF m pc' ls (.long (x * y) :: st)) := by
  subst hp
  exact OG.of fun s' T locs cl sl X target k => XS.lmul X.here C.1 rfl (C.d hd) rfl k
theorem OG.iand (C : OC p s m meth c Z own nm bytes ml ret) {x y : Int32} (hd : decode bytes pc = .ok (.iand, 1))  (hp : pc + 1 = pc') : OG p l e R s m args below meth c n0 h (mkF m pc ls (.int y :: .int x :: st)) (mkF m pc' ls (.int (x &&& y) :: st)) := by
  subst hp
  exact OG.of fun s' T locs cl sl X target k => XS.iand X.here C.1 rfl (C.d hd) rfl k
theorem OG.land (C : OC p s m meth c Z own nm bytes ml ret) {x y : Int64} (hd : decode bytes pc = .ok (.land, 1))  (hp : pc + 1 = pc') : OG p l e R s m args below meth c n0 h (mkF m pc ls (.long y :: .long x :: st)) (mkF m pc' ls (.long (x &&& y) :: st)) := by
  subst hp
  exact OG.of fun s' T locs cl sl X target k => XS.land X.here C.1 rfl (C.d hd) rfl k
theorem OG.ior (C : OC p s m meth c Z own nm bytes ml ret) {x y : Int32} (hd : decode bytes pc = .ok (.ior, 1))  (hp : pc + 1 = pc') : OG p l e R s m args below meth c n0 h (mkF m pc ls (.int y :: .int x :: st)) (mkF m pc' ls (.int (x ||| y) :: st)) := by
  subst hp
  exact OG.of fun s' T locs cl sl X target k => XS.ior X.here C.1 rfl (C.d hd) rfl k
theorem OG.lor (C : OC p s m meth c Z own nm bytes ml ret) {x y : Int64} (hd : decode bytes pc = .ok (.lor, 1))  (hp : pc + 1 = pc') : OG p l e R s m args below meth c n0 h (mkF m pc ls (.long y :: .long x :: st)) (mkF m pc' ls (.long (x ||| y) :: st)) := by
  subst hp
  exact OG.of fun s' T locs cl sl X target k => XS.lor X.here C.1 rfl (C.d hd) rfl k
theorem OG.ixor (C : OC p s m meth c Z own nm bytes ml ret) {x y : Int32} (hd : decode bytes pc = .ok (.ixor, 1))  (hp : pc + 1 = pc') : OG p l e R s m args below meth c n0 h (mkF m pc ls (.int y :: .int x :: st)) (mkF m pc' ls (.int (x ^^^ y) :: st)) := by
  subst hp
  exact OG.of fun s' T locs cl sl X target k => XS.ixor X.here C.1 rfl (C.d hd) rfl k
theorem OG.lxor (C : OC p s m meth c Z own nm bytes ml ret) {x y : Int64} (hd : decode bytes pc = .ok (.lxor, 1))  (hp : pc + 1 = pc') : OG p l e R s m args below meth c n0 h (mkF m pc ls (.long y :: .long x :: st)) (mkF m pc' ls (.long (x ^^^ y) :: st)) := by
  subst hp
  exact OG.of fun s' T locs cl sl X target k => XS.lxor X.here C.1 rfl (C.d hd) rfl k
theorem OG.idiv (C : OC p s m meth c Z own nm bytes ml ret) {x y : Int32} (hd : decode bytes pc = .ok (.idiv, 1)) (hy : y ≠ 0) (hp : pc + 1 = pc') : OG p l e R s m args below meth c n0 h (mkF m pc ls (.int y :: .int x :: st)) (mkF m pc' ls (.int (x / y) :: st)) := by
  subst hp
  exact OG.of fun s' T locs cl sl X target k => XS.idiv X.here C.1 rfl (C.d hd) rfl hy k
theorem OG.ldiv (C : OC p s m meth c Z own nm bytes ml ret) {x y : Int64} (hd : decode bytes pc = .ok (.ldiv, 1)) (hy : y ≠ 0) (hp : pc + 1 = pc') : OG p l e R s m args below meth c n0 h (mkF m pc ls (.long y :: .long x :: st)) (mkF m pc' ls (.long (x / y) :: st)) := by
  subst hp
  exact OG.of fun s' T locs cl sl X target k => XS.ldiv X.here C.1 rfl (C.d hd) rfl hy k
theorem OG.ineg (C : OC p s m meth c Z own nm bytes ml ret) {x : Int32} (hd : decode bytes pc = .ok (.ineg, 1))  (hp : pc + 1 = pc') : OG p l e R s m args below meth c n0 h (mkF m pc ls (.int x :: st)) (mkF m pc' ls (.int (-x) :: st)) := by
  subst hp
  exact OG.of fun s' T locs cl sl X target k => XS.ineg X.here C.1 rfl (C.d hd) rfl k
theorem OG.lneg (C : OC p s m meth c Z own nm bytes ml ret) {x : Int64} (hd : decode bytes pc = .ok (.lneg, 1))  (hp : pc + 1 = pc') : OG p l e R s m args below meth c n0 h (mkF m pc ls (.long x :: st)) (mkF m pc' ls (.long (-x) :: st)) := by
  subst hp
  exact OG.of fun s' T locs cl sl X target k => XS.lneg X.here C.1 rfl (C.d hd) rfl k
theorem OG.i2l (C : OC p s m meth c Z own nm bytes ml ret) {x : Int32} (hd : decode bytes pc = .ok (.i2l, 1))  (hp : pc + 1 = pc') : OG p l e R s m args below meth c n0 h (mkF m pc ls (.int x :: st)) (mkF m pc' ls (.long x.toInt64 :: st)) := by
  subst hp
  exact OG.of fun s' T locs cl sl X target k => XS.i2l X.here C.1 rfl (C.d hd) rfl k
theorem OG.l2i (C : OC p s m meth c Z own nm bytes ml ret) {x : Int64} (hd : decode bytes pc = .ok (.l2i, 1))  (hp : pc + 1 = pc') : OG p l e R s m args below meth c n0 h (mkF m pc ls (.long x :: st)) (mkF m pc' ls (.int x.toInt32 :: st)) := by
  subst hp
  exact OG.of fun s' T locs cl sl X target k => XS.l2i X.here C.1 rfl (C.d hd) rfl k
theorem OG.i2b (C : OC p s m meth c Z own nm bytes ml ret) {x : Int32} (hd : decode bytes pc = .ok (.i2b, 1))  (hp : pc + 1 = pc') : OG p l e R s m args below meth c n0 h (mkF m pc ls (.int x :: st)) (mkF m pc' ls (.int x.toInt8.toInt32 :: st)) := by
  subst hp
  exact OG.of fun s' T locs cl sl X target k => XS.i2b X.here C.1 rfl (C.d hd) rfl k
theorem OG.i2c (C : OC p s m meth c Z own nm bytes ml ret) {x : Int32} (hd : decode bytes pc = .ok (.i2c, 1))  (hp : pc + 1 = pc') : OG p l e R s m args below meth c n0 h (mkF m pc ls (.int x :: st)) (mkF m pc' ls (.int x.toUInt32.toUInt16.toUInt32.toInt32 :: st)) := by
  subst hp
  exact OG.of fun s' T locs cl sl X target k => XS.i2c X.here C.1 rfl (C.d hd) rfl k
theorem OG.i2s (C : OC p s m meth c Z own nm bytes ml ret) {x : Int32} (hd : decode bytes pc = .ok (.i2s, 1))  (hp : pc + 1 = pc') : OG p l e R s m args below meth c n0 h (mkF m pc ls (.int x :: st)) (mkF m pc' ls (.int x.toInt16.toInt32 :: st)) := by
  subst hp
  exact OG.of fun s' T locs cl sl X target k => XS.i2s X.here C.1 rfl (C.d hd) rfl k
theorem OG.ishl (C : OC p s m meth c Z own nm bytes ml ret) {x y : Int32} (hd : decode bytes pc = .ok (.ishl, 1))  (hp : pc + 1 = pc') : OG p l e R s m args below meth c n0 h (mkF m pc ls (.int y :: .int x :: st)) (mkF m pc' ls (.int (x <<< (y &&& 31)) :: st)) := by
  subst hp
  exact OG.of fun s' T locs cl sl X target k => XS.ishl X.here C.1 rfl (C.d hd) rfl k
theorem OG.ishr (C : OC p s m meth c Z own nm bytes ml ret) {x y : Int32} (hd : decode bytes pc = .ok (.ishr, 1))  (hp : pc + 1 = pc') : OG p l e R s m args below meth c n0 h (mkF m pc ls (.int y :: .int x :: st)) (mkF m pc' ls (.int (x >>> (y &&& 31)) :: st)) := by
  subst hp
  exact OG.of fun s' T locs cl sl X target k => XS.ishr X.here C.1 rfl (C.d hd) rfl k
theorem OG.iushr (C : OC p s m meth c Z own nm bytes ml ret) {x y : Int32} (hd : decode bytes pc = .ok (.iushr, 1))  (hp : pc + 1 = pc') : OG p l e R s m args below meth c n0 h (mkF m pc ls (.int y :: .int x :: st)) (mkF m pc' ls (.int (x.toUInt32 >>> (y &&& 31).toUInt32).toInt32 :: st)) := by
  subst hp
  exact OG.of fun s' T locs cl sl X target k => XS.iushr X.here C.1 rfl (C.d hd) rfl k
theorem OG.lshl (C : OC p s m meth c Z own nm bytes ml ret) {x : Int64} {y : Int32} (hd : decode bytes pc = .ok (.lshl, 1))  (hp : pc + 1 = pc') : OG p l e R s m args below meth c n0 h (mkF m pc ls (.int y :: .long x :: st)) (mkF m pc' ls (.long (x <<< (y &&& 0x3f).toInt64) :: st)) := by
  subst hp
  exact OG.of fun s' T locs cl sl X target k => XS.lshl X.here C.1 rfl (C.d hd) rfl k
theorem OG.lshr (C : OC p s m meth c Z own nm bytes ml ret) {x : Int64} {y : Int32} (hd : decode bytes pc = .ok (.lshr, 1))  (hp : pc + 1 = pc') : OG p l e R s m args below meth c n0 h (mkF m pc ls (.int y :: .long x :: st)) (mkF m pc' ls (.long (x >>> (y &&& 0x3f).toInt64) :: st)) := by
  subst hp
  exact OG.of fun s' T locs cl sl X target k => XS.lshr X.here C.1 rfl (C.d hd) rfl k
theorem OG.lushr (C : OC p s m meth c Z own nm bytes ml ret) {x : Int64} {y : Int32} (hd : decode bytes pc = .ok (.lushr, 1))  (hp : pc + 1 = pc') : OG p l e R s m args below meth c n0 h (mkF m pc ls (.int y :: .long x :: st)) (mkF m pc' ls (.long (x.toUInt64 >>> (y &&& 0x3f).toInt64.toUInt64).toInt64 :: st)) := by
  subst hp
  exact OG.of fun s' T locs cl sl X target k => XS.lushr X.here C.1 rfl (C.d hd) rfl k
theorem OG.lcmp (C : OC p s m meth c Z own nm bytes ml ret) {x y : Int64} (hd : decode bytes pc = .ok (.lcmp, 1))  (hp : pc + 1 = pc') : OG p l e R s m args below meth c n0 h (mkF m pc ls (.long y :: .long x :: st)) (mkF m pc' ls (.int (lcmpW x y) :: st)) := by
  subst hp
  exact OG.of fun s' T locs cl sl X target k => XS.lcmp X.here C.1 rfl (C.d hd) rfl k
theorem OG.dup (C : OC p s m meth c Z own nm bytes ml ret) {x : Value} (hd : decode bytes pc = .ok (.dup, 1)) (hc : x.category = 1) (hp : pc + 1 = pc') : OG p l e R s m args below meth c n0 h (mkF m pc ls (x :: st)) (mkF m pc' ls (x :: x :: st)) := by
  subst hp
  exact OG.of fun s' T locs cl sl X target k => XS.dup X.here C.1 rfl (C.d hd) rfl hc k
theorem OG.pop (C : OC p s m meth c Z own nm bytes ml ret) {x : Value} (hd : decode bytes pc = .ok (.pop, 1)) (hc : x.category = 1) (hp : pc + 1 = pc') : OG p l e R s m args below meth c n0 h (mkF m pc ls (x :: st)) (mkF m pc' ls st) := by
  subst hp
  exact OG.of fun s' T locs cl sl X target k => XS.pop X.here C.1 rfl (C.d hd) rfl hc k
theorem OG.iinc (C : OC p s m meth c Z own nm bytes ml ret) {k : Nat} {i : Int} {x z : Int32} (hd : decode bytes pc = .ok (.iinc k i, 3)) (hz : Int32.ofInt i = z) (hl : ls[k]? = some (.val (.int x))) (hl' : storeLocals ls k (.int (x + z)) = some ls') (hp : pc + 3 = pc') : OG p l e R s m args below meth c n0 h (mkF m pc ls st) (mkF m pc' ls' st) := by
  subst hp hz
  exact OG.of fun s' T locs cl sl X target k => XS.iinc X.here C.1 rfl (C.d hd) hl hl' k
theorem OG.goto (C : OC p s m meth c Z own nm bytes ml ret) {o : Int} (hd : decode bytes pc = .ok (.goto o, 3)) (ho : 0 ≤ (pc : Int) + o) (hp : ((pc : Int) + o).toNat = pc') : OG p l e R s m args below meth c n0 h (mkF m pc ls st) (mkF m pc' ls st) := OG.of fun s' T locs cl sl X target k => XS.goto X.here C.1 rfl (pc0 := pc) rfl (C.d hd) ho hp k
theorem OG.ifYes (C : OC p s m meth c Z own nm bytes ml ret) {o : Int} {cd : ClassFile.Cond} {x : Int32} (hd : decode bytes pc = .ok (.ifCond cd o, 3)) (hc : ifCond.holds cd x = true) (ho : 0 ≤ (pc : Int) + o) (hp : ((pc : Int) + o).toNat = pc') : OG p l e R s m args below meth c n0 h (mkF m pc ls (.int x :: st)) (mkF m pc' ls st) := OG.of fun s' T locs cl sl X target k => XS.ifYes X.here C.1 rfl (pc0 := pc) rfl (C.d hd) rfl hc ho hp k
theorem OG.ifNo (C : OC p s m meth c Z own nm bytes ml ret) {o : Int} {cd : ClassFile.Cond} {x : Int32} (hd : decode bytes pc = .ok (.ifCond cd o, 3)) (hc : ifCond.holds cd x = false) (hp : pc + 3 = pc') : OG p l e R s m args below meth c n0 h (mkF m pc ls (.int x :: st)) (mkF m pc' ls st) := by
  subst hp
  exact OG.of fun s' T locs cl sl X target k => XS.ifNo X.here C.1 rfl (C.d hd) rfl hc k
theorem OG.icmpYes (C : OC p s m meth c Z own nm bytes ml ret) {o : Int} {cd : ClassFile.Cond} {x y : Int32} (hd : decode bytes pc = .ok (.if_icmp cd o, 3)) (hc : if_icmp.holds cd x y = true) (ho : 0 ≤ (pc : Int) + o) (hp : ((pc : Int) + o).toNat = pc') : OG p l e R s m args below meth c n0 h (mkF m pc ls (.int y :: .int x :: st)) (mkF m pc' ls st) := OG.of fun s' T locs cl sl X target k => XS.icmpYes X.here C.1 rfl (pc0 := pc) rfl (C.d hd) rfl hc ho hp k
theorem OG.icmpNo (C : OC p s m meth c Z own nm bytes ml ret) {o : Int} {cd : ClassFile.Cond} {x y : Int32} (hd : decode bytes pc = .ok (.if_icmp cd o, 3)) (hc : if_icmp.holds cd x y = false) (hp : pc + 3 = pc') : OG p l e R s m args below meth c n0 h (mkF m pc ls (.int y :: .int x :: st)) (mkF m pc' ls st) := by
  subst hp
  exact OG.of fun s' T locs cl sl X target k => XS.icmpNo X.here C.1 rfl (C.d hd) rfl hc k
theorem OG.ifnullYes (C : OC p s m meth c Z own nm bytes ml ret) {o : Int}  (hd : decode bytes pc = .ok (.ifnull o, 3))  (ho : 0 ≤ (pc : Int) + o) (hp : ((pc : Int) + o).toNat = pc') : OG p l e R s m args below meth c n0 h (mkF m pc ls (.null :: st)) (mkF m pc' ls st) := OG.of fun s' T locs cl sl X target k => XS.ifnullYes X.here C.1 rfl (pc0 := pc) rfl (C.d hd) rfl ho hp k
theorem OG.ifnullNo (C : OC p s m meth c Z own nm bytes ml ret) {o : Int} {b : Addr} (hd : decode bytes pc = .ok (.ifnull o, 3))  (hp : pc + 3 = pc') : OG p l e R s m args below meth c n0 h (mkF m pc ls (.ref b :: st)) (mkF m pc' ls st) := by
  subst hp
  exact OG.of fun s' T locs cl sl X target k => XS.ifnullNo X.here C.1 rfl (C.d hd) rfl k
theorem OG.ifnonnullYes (C : OC p s m meth c Z own nm bytes ml ret) {o : Int} {b : Addr} (hd : decode bytes pc = .ok (.ifnonnull o, 3))  (ho : 0 ≤ (pc : Int) + o) (hp : ((pc : Int) + o).toNat = pc') : OG p l e R s m args below meth c n0 h (mkF m pc ls (.ref b :: st)) (mkF m pc' ls st) := OG.of fun s' T locs cl sl X target k => XS.ifnonnullYes X.here C.1 rfl (pc0 := pc) rfl (C.d hd) rfl ho hp k
theorem OG.ifnonnullNo (C : OC p s m meth c Z own nm bytes ml ret) {o : Int}  (hd : decode bytes pc = .ok (.ifnonnull o, 3))  (hp : pc + 3 = pc') : OG p l e R s m args below meth c n0 h (mkF m pc ls (.null :: st)) (mkF m pc' ls st) := by
  subst hp
  exact OG.of fun s' T locs cl sl X target k => XS.ifnonnullNo X.here C.1 rfl (C.d hd) rfl k
theorem OG.irem (C : OC p s m meth c Z own nm bytes ml ret) {x y : Int32} (hd : decode bytes pc = .ok (.irem, 1)) (hy : y ≠ 0) (hp : pc + 1 = pc') : OG p l e R s m args below meth c n0 h (mkF m pc ls (.int y :: .int x :: st)) (mkF m pc' ls (.int (x % y) :: st)) := by
  subst hp
  refine OG.of fun s' T locs cl sl X target k => XS.irem X.here C.1 rfl (C.d hd) rfl hy ?_
  rw [irem_eq_mod x y]; exact k
theorem OG.lrem (C : OC p s m meth c Z own nm bytes ml ret) {x y : Int64} (hd : decode bytes pc = .ok (.lrem, 1)) (hy : y ≠ 0) (hp : pc + 1 = pc') : OG p l e R s m args below meth c n0 h (mkF m pc ls (.long y :: .long x :: st)) (mkF m pc' ls (.long (x % y) :: st)) := by
  subst hp
  refine OG.of fun s' T locs cl sl X target k => XS.lrem X.here C.1 rfl (C.d hd) rfl hy ?_
  rw [lrem_mod x y]; exact k
theorem OG.acmp (C : OC p s m meth c Z own nm bytes ml ret) {o : Int} {cd : ACond} {x y : Value} {same : Bool} (hd : decode bytes pc = .ok (.if_acmp cd o, 3)) (h1 : x.isRef = true) (h2 : y.isRef = true) (hq : decide (x = y) = same) (ho : 0 ≤ (pc : Int) + o) (hp : pc' = if acV cd same = true then ((pc : Int) + o).toNat else pc + 3) :
    OG p l e R s m args below meth c n0 h (mkF m pc ls (y :: x :: st)) (mkF m pc' ls st) :=
  OG.of fun s' T locs cl sl X target k => RoadKit.acmp X C.1 rfl h1 h2 (pc0 := pc) rfl (C.d hd) rfl hq ho hp k
theorem OG.ldcI (C : OC p s m meth c Z own nm bytes ml ret) {i : Nat} {v : Int32} (w : (Cond.constant own i v).before a0 Z = true) (hd : decode bytes pc = .ok (.ldc i, 2)) (hp : pc + 2 = pc') : OG p l e R s m args below meth c n0 h (mkF m pc ls st) (mkF m pc' ls (.int v :: st)) := by
  subst hp
  rintro T locs cl sl ⟨X, N0, e0, bc, bs⟩
  exact ⟨T, locs, ⟨X, N0, e0, bc, bs⟩, fun target k => X.ldcInt C.1 C.2.2.2.1 (mv C.2.2.1 w) (g := mkF m pc ls st) rfl (C.d hd) target k⟩
theorem OG.ldcL (C : OC p s m meth c Z own nm bytes ml ret) {i : Nat} {v : Int64} (w : (Cond.constantLong own i v).before a0 Z = true) (hd : decode bytes pc = .ok (.ldc2_w i, 3)) (hp : pc + 3 = pc') : OG p l e R s m args below meth c n0 h (mkF m pc ls st) (mkF m pc' ls (.long v :: st)) := by
  subst hp
  rintro T locs cl sl ⟨X, N0, e0, bc, bs⟩
  exact ⟨T, locs, ⟨X, N0, e0, bc, bs⟩, fun target k => X.ldc2Long C.1 C.2.2.2.1 (mv C.2.2.1 w) (g := mkF m pc ls st) rfl (C.d hd) target k⟩
theorem OG.ldcS (C : OC p s m meth c Z own nm bytes ml ret) {i : Nat} {t : String} {a : Addr} (w : (Cond.stringRef own i t).before a0 Z = true) (F : Lit Z own i a) (hd : decode bytes pc = .ok (.ldc i, 2)) (hp : pc + 2 = pc') : OG p l e R s m args below meth c n0 h (mkF m pc ls st) (mkF m pc' ls (.ref a :: st)) := by
  subst hp
  rintro T locs cl sl ⟨X, N0, e0, bc, bs⟩
  exact ⟨T, locs, ⟨X, N0, e0, bc, bs⟩, fun target k => ldcR X C.1 C.2.2.1 C.2.2.2.1 w F (g := mkF m pc ls st) rfl (C.d hd) target k⟩
theorem OG.getF (C : OC p s m meth c Z own nm bytes ml ret) {R0 O n d host : String} {i : Nat} {a : Addr} {v : Value} (w : (Cond.fieldLink own i R0 n d).before a0 Z = true ∨ (Cond.fieldLinkNest own i R0 n d host).before a0 Z = true) (via : Via Z R0 O n d) (F : Fld Z h a O n d v) (hd : decode bytes pc = .ok (.getfield i, 3)) (hp : pc + 3 = pc') :
    OG p l e R s m args below meth c n0 h (mkF m pc ls (.ref a :: st)) (mkF m pc' ls (v :: st)) := by
  subst hp
  rintro T locs cl sl ⟨X, N0, e0, bc, bs⟩
  obtain ⟨T', X', e', k⟩ := RoadKit.getF X C.1 C.2.2.1 C.2.2.2.1 w via e0 F (g := mkF m pc ls (.ref a :: st)) rfl rfl (C.d hd)
  exact ⟨T', locs, ⟨X', N0, e', bc, bs⟩, k⟩
theorem OG.getS (C : OC p s m meth c Z own nm bytes ml ret) {R0 O n d host : String} {i : Nat} {v : Value} (w : (Cond.fieldLink own i R0 n d).before a0 Z = true ∨ (Cond.fieldLinkNest own i R0 n d host).before a0 Z = true) (via : Via Z R0 O n d) (F : Sta Z h O n d v) (hd : decode bytes pc = .ok (.getstatic i, 3)) (hp : pc + 3 = pc') :
    OG p l e R s m args below meth c n0 h (mkF m pc ls st) (mkF m pc' ls (v :: st)) := by
  subst hp
  rintro T locs cl sl ⟨X, N0, e0, bc, bs⟩
  obtain ⟨T', X', e', k⟩ := getS2 X C.1 C.2.2.1 C.2.2.2.1 w via e0 F (g := mkF m pc ls st) rfl (C.d hd)
  exact ⟨T', locs, ⟨X', N0, e', bc, bs⟩, k⟩
/-- an array and what stands in it -/
def OA (Z : State) (h : Heap) (a : Addr) (ty : FieldType) (vs : List Value) : Prop := ∃ c : Cell, Arr Z h a c ty ∧ c.slots.toList = vs
theorem OA.lt {a : Addr} {ty : FieldType} {vs : List Value} (A : OA Z h a ty vs) : a < h.size := by obtain ⟨c, A, -⟩ := A; exact A.lt
theorem OA.ext {h' : Heap} {a : Addr} {ty : FieldType} {vs : List Value} (A : OA Z h a ty vs) (E : Ext h h') : OA Z h' a ty vs := by obtain ⟨c, A, r⟩ := A; exact ⟨c, A.ext E, r⟩
theorem OA.other {h' : Heap} {a b : Addr} {k : Nat} {v : Value} {ty : FieldType} {vs : List Value} (A : OA Z h a ty vs) (W : Wr h h' b k v) (q : a ≠ b) : OA Z h' a ty vs := by obtain ⟨c, A, r⟩ := A; exact ⟨c, A.other W q, r⟩
theorem OA.same {h' : Heap} {a : Addr} {k : Nat} {v : Value} {ty : FieldType} {vs : List Value} (A : OA Z h a ty vs) (W : Wr h h' a k v) : OA Z h' a ty (vs.set k v) := by
  obtain ⟨c, A, r⟩ := A
  exact ⟨_, A.same W, by subst r; simp [Cell.setSlot]⟩
theorem OA.keep {h' : Heap} {a : Addr} {ws : List Addr} {ty : FieldType} {vs : List Value} (A : OA Z h a ty vs) (W : Keep h h' ws) (q : a ∉ ws) : OA Z h' a ty vs := by obtain ⟨c, A, r⟩ := A; exact ⟨c, ⟨W.2.1 a c A.1 q, A.2⟩, r⟩
theorem OA.inb {c : Cell} {vs : List Value} {j : Int32} (r : c.slots.toList = vs) (q : 0 ≤ j.toInt ∧ j.toInt < vs.length) : ¬ (j < 0 ∨ c.slots.size ≤ j.toNatClampNeg) := by
  have : c.slots.size = vs.length := by rw [← r]; simp
  rw [Int32.lt_iff_toInt_lt, Int32.toNatClampNeg]
  simp only [Int32.reduceToInt]; omega
theorem own_ib {j : Int32} {vs : List Value} {n : Nat} (q : vs.length = n) (r : 0 ≤ j.toInt ∧ j.toInt < (n : Int)) : 0 ≤ j.toInt ∧ j.toInt < vs.length := by rw [q]; exact r
theorem OA.new {k : ClassId} {a : Addr} {ty : FieldType} {z : Int32} {n : Nat} (A : Arr Z h a (newA k ty z) ty) (q : z.toNatClampNeg = n) : OA Z h a ty (List.replicate n (defaultValue ty)) := ⟨_, A, by subst q; simp [newA]⟩
theorem OG.laload (C : OC p s m meth c Z own nm bytes ml ret) {a : Addr} {j : Int32} {vs : List Value} {v : Value} (F : OA Z h a .long vs) (q : 0 ≤ j.toInt ∧ j.toInt < vs.length) (hv : vs[j.toNatClampNeg]? = some v) (hd : decode bytes pc = .ok (.laload, 1)) (hp : pc + 1 = pc') :
    OG p l e R s m args below meth c n0 h (mkF m pc ls (.int j :: .ref a :: st)) (mkF m pc' ls (v :: st)) := by
  subst hp
  rintro T locs cl sl ⟨X, N0, e0, bc, bs⟩
  obtain ⟨cc, A, r⟩ := F
  exact ⟨T, locs, ⟨X, N0, e0, bc, bs⟩, X.laload C.1 (by rw [e0]; exact A.1) (State.isArrayOf_alike C.2.2.1.alike A.2.1) A.2.2 (OA.inb r q) (by rw [← r] at hv; simpa using hv) (g := mkF m pc ls (.int j :: .ref a :: st)) rfl rfl (C.d hd)⟩
theorem OG.iaload (C : OC p s m meth c Z own nm bytes ml ret) {a : Addr} {j : Int32} {vs : List Value} {v : Value} (F : OA Z h a .int vs) (q : 0 ≤ j.toInt ∧ j.toInt < vs.length) (hv : vs[j.toNatClampNeg]? = some v) (hd : decode bytes pc = .ok (.iaload, 1)) (hp : pc + 1 = pc') :
    OG p l e R s m args below meth c n0 h (mkF m pc ls (.int j :: .ref a :: st)) (mkF m pc' ls (v :: st)) := by
  subst hp
  rintro T locs cl sl ⟨X, N0, e0, bc, bs⟩
  obtain ⟨cc, A, r⟩ := F
  exact ⟨T, locs, ⟨X, N0, e0, bc, bs⟩, X.iaload C.1 (by rw [e0]; exact A.1) (State.isArrayOf_alike C.2.2.1.alike A.2.1) A.2.2 (OA.inb r q) (by rw [← r] at hv; simpa using hv) (g := mkF m pc ls (.int j :: .ref a :: st)) rfl rfl (C.d hd)⟩
theorem OG.caload (C : OC p s m meth c Z own nm bytes ml ret) {a : Addr} {j : Int32} {vs : List Value} {v : Value} (F : OA Z h a .char vs) (q : 0 ≤ j.toInt ∧ j.toInt < vs.length) (hv : vs[j.toNatClampNeg]? = some v) (hd : decode bytes pc = .ok (.caload, 1)) (hp : pc + 1 = pc') :
    OG p l e R s m args below meth c n0 h (mkF m pc ls (.int j :: .ref a :: st)) (mkF m pc' ls (v :: st)) := by
  subst hp
  rintro T locs cl sl ⟨X, N0, e0, bc, bs⟩
  obtain ⟨cc, A, r⟩ := F
  exact ⟨T, locs, ⟨X, N0, e0, bc, bs⟩, X.caload C.1 (by rw [e0]; exact A.1) (State.isArrayOf_alike C.2.2.1.alike A.2.1) A.2.2 (OA.inb r q) (by rw [← r] at hv; simpa using hv) (g := mkF m pc ls (.int j :: .ref a :: st)) rfl rfl (C.d hd)⟩
theorem OG.baload (C : OC p s m meth c Z own nm bytes ml ret) {a : Addr} {j : Int32} {vs : List Value} {v : Value} (F : OA Z h a .byte vs) (q : 0 ≤ j.toInt ∧ j.toInt < vs.length) (hv : vs[j.toNatClampNeg]? = some v) (hd : decode bytes pc = .ok (.baload, 1)) (hp : pc + 1 = pc') :
    OG p l e R s m args below meth c n0 h (mkF m pc ls (.int j :: .ref a :: st)) (mkF m pc' ls (v :: st)) := by
  subst hp
  rintro T locs cl sl ⟨X, N0, e0, bc, bs⟩
  obtain ⟨cc, A, r⟩ := F
  exact ⟨T, locs, ⟨X, N0, e0, bc, bs⟩, X.baloadBytes C.1 (by rw [e0]; exact A.1) (State.isArrayOf_alike C.2.2.1.alike A.2.1) A.2.2 (OA.inb r q) (by rw [← r] at hv; simpa using hv) (g := mkF m pc ls (.int j :: .ref a :: st)) rfl rfl (C.d hd)⟩
theorem OG.aaload (C : OC p s m meth c Z own nm bytes ml ret) {a : Addr} {j : Int32} {ty : FieldType} {vs : List Value} {v : Value} (F : OA Z h a ty vs) (ht : ty.isReference = true) (q : 0 ≤ j.toInt ∧ j.toInt < vs.length) (hv : vs[j.toNatClampNeg]? = some v) (hd : decode bytes pc = .ok (.aaload, 1)) (hp : pc + 1 = pc') :
    OG p l e R s m args below meth c n0 h (mkF m pc ls (.int j :: .ref a :: st)) (mkF m pc' ls (v :: st)) := by
  subst hp
  rintro T locs cl sl ⟨X, N0, e0, bc, bs⟩
  obtain ⟨cc, A, r⟩ := F
  exact ⟨T, locs, ⟨X, N0, e0, bc, bs⟩, X.aaload C.1 (by rw [e0]; exact A.1) (State.isArrayOf_alike C.2.2.1.alike A.2.1) ht A.2.2 (OA.inb r q) (by rw [← r] at hv; simpa using hv) (g := mkF m pc ls (.int j :: .ref a :: st)) rfl rfl (C.d hd)⟩
theorem OG.arraylength (C : OC p s m meth c Z own nm bytes ml ret) {a : Addr} {ty : FieldType} {vs : List Value} {z : Int32} (F : OA Z h a ty vs) (hz : vs.length.toInt32 = z) (hd : decode bytes pc = .ok (.arraylength, 1)) (hp : pc + 1 = pc') :
    OG p l e R s m args below meth c n0 h (mkF m pc ls (.ref a :: st)) (mkF m pc' ls (.int z :: st)) := by
  subst hp hz
  rintro T locs cl sl ⟨X, N0, e0, bc, bs⟩
  obtain ⟨cc, A, r⟩ := F
  refine ⟨T, locs, ⟨X, N0, e0, bc, bs⟩, fun t k => X.arraylength C.1 (by rw [e0]; exact A.1) (State.isArrayOf_alike C.2.2.1.alike A.2.1) (g := mkF m pc ls (.ref a :: st)) rfl rfl (C.d hd) t ?_⟩
  have : cc.slots.size = vs.length := by rw [← r]; simp
  rw [this]; exact k
/-! returns -/
theorem OW.retI (C : OC p s m meth c Z own nm bytes ml (some .int)) {z : Int32} (hd : decode bytes pc = .ok (.ireturn, 1)) (hK : cl ≤ K) (hN : sl ≤ N) (hQ : Q (some (.int z)) h) : OW p l e R s m args below meth c n0 Q K N h cl sl (mkF m pc ls (.int z :: st)) := fun T locs ⟨X, N0, e0, bc, bs⟩ => by
  obtain ⟨fs, hr, hrun, hended, hW, hsame⟩ := X.leave (v := some (.int z)) (fun q => by rw [C.2.2.2.2.2.1] at q; cases q) C.2.2.2.2.2.2.1
  exact ⟨_, _, retOut X C.1 C.2.2.2.2.2.1 rfl (Or.inl ⟨rfl, Or.inl rfl, z, rfl⟩) (C.d hd) hr, hrun, hended, _, locs, rfl, ⟨by show Q _ T.heap; rw [e0]; exact hQ, N0⟩, ⟨_, rfl⟩, hW, hsame.mono hK hN⟩
theorem OW.retN {t : FieldType} (C : OC p s m meth c Z own nm bytes ml (some t)) {z : Int32} (ht : t = .boolean ∨ t = .byte ∨ t = .char ∨ t = .short) (hd : decode bytes pc = .ok (.ireturn, 1)) (hK : cl ≤ K) (hN : sl ≤ N) (hQ : Q (some (.int (nar t z))) h) : OW p l e R s m args below meth c n0 Q K N h cl sl (mkF m pc ls (.int z :: st)) := fun T locs ⟨X, N0, e0, bc, bs⟩ => by
  obtain ⟨fs, hr, hrun, hended, hW, hsame⟩ := X.leave (v := some (.int (nar t z))) (fun q => by rw [C.2.2.2.2.2.1] at q; cases q) C.2.2.2.2.2.2.1
  exact ⟨_, _, RoadKit.retN X C.1 C.2.2.2.2.2.1 ht (C.d hd) hr, hrun, hended, _, locs, rfl, ⟨by show Q _ T.heap; rw [e0]; exact hQ, N0⟩, ⟨_, rfl⟩, hW, hsame.mono hK hN⟩
theorem OW.retL (C : OC p s m meth c Z own nm bytes ml (some .long)) {z : Int64} (hd : decode bytes pc = .ok (.lreturn, 1)) (hK : cl ≤ K) (hN : sl ≤ N) (hQ : Q (some (.long z)) h) : OW p l e R s m args below meth c n0 Q K N h cl sl (mkF m pc ls (.long z :: st)) := fun T locs ⟨X, N0, e0, bc, bs⟩ => by
  obtain ⟨fs, hr, hrun, hended, hW, hsame⟩ := X.leave (v := some (.long z)) (fun q => by rw [C.2.2.2.2.2.1] at q; cases q) C.2.2.2.2.2.2.1
  exact ⟨_, _, retOut X C.1 C.2.2.2.2.2.1 rfl (Or.inr (Or.inl ⟨rfl, rfl, z, rfl⟩)) (C.d hd) hr, hrun, hended, _, locs, rfl, ⟨by show Q _ T.heap; rw [e0]; exact hQ, N0⟩, ⟨_, rfl⟩, hW, hsame.mono hK hN⟩
theorem OW.retA {t : FieldType} (C : OC p s m meth c Z own nm bytes ml (some t)) {v : Value} (ht : t.isReference = true) (hv : v.isRef = true) (hd : decode bytes pc = .ok (.areturn, 1)) (hK : cl ≤ K) (hN : sl ≤ N) (hQ : Q (some v) h) : OW p l e R s m args below meth c n0 Q K N h cl sl (mkF m pc ls (v :: st)) := fun T locs ⟨X, N0, e0, bc, bs⟩ => by
  have hn : narrow t v = v := by cases t <;> first | (cases ht; done) | (cases v <;> rfl)
  obtain ⟨fs, hr, hrun, hended, hW, hsame⟩ := X.leave (v := some v) (fun q => by rw [C.2.2.2.2.2.1] at q; cases q) C.2.2.2.2.2.2.1
  exact ⟨_, _, retOut X C.1 C.2.2.2.2.2.1 hn (Or.inr (Or.inr (Or.inr (Or.inr ⟨rfl, ht, hv⟩)))) (C.d hd) hr, hrun, hended, _, locs, rfl, ⟨by show Q _ T.heap; rw [e0]; exact hQ, N0⟩, ⟨_, rfl⟩, hW, hsame.mono hK hN⟩
theorem OW.retV (C : OC p s m meth c Z own nm bytes ml none) (hd : decode bytes pc = .ok (.return_, 1)) (hK : cl ≤ K) (hN : sl ≤ N) (hQ : Q none h) : OW p l e R s m args below meth c n0 Q K N h cl sl (mkF m pc ls []) := fun T locs ⟨X, N0, e0, bc, bs⟩ => by
  obtain ⟨fs, hr, hrun, hended, hW, hsame⟩ := X.leave (v := none) (fun _ => rfl) C.2.2.2.2.2.2.1
  exact ⟨_, _, X.returnOut C.1 C.2.2.2.2.2.1 (C.d hd) hr, hrun, hended, _, locs, rfl, ⟨by show Q _ T.heap; rw [e0]; exact hQ, N0⟩, ⟨_, rfl⟩, hW, hsame.mono hK hN⟩
/-! the heap: new, putfield, arrays -/
theorem OW.putF (C : OC p s m meth c Z own nm bytes ml ret) {R0 O n d host Cl : String} {i kk : Nat} {ty : FieldType} {a : Addr} {v old : Value} (w : (Cond.fieldLink own i R0 n d).before a0 Z = true ∨ (Cond.fieldLinkNest own i R0 n d host).before a0 Z = true) (via : Via Z R0 O n d) (F : Fld Z h a O n d old) (E : Exa Z h a Cl)
    (L : (Cond.lays Cl O n d).before a0 Z = true ∨ ((Cond.laysFinal Cl O n d).before a0 Z = true ∧ own = O ∧ nm = "<init>")) (wi : (Cond.instantiable Cl kk).before a0 Z = true) (hty : parseFieldDescriptor d = some ty) (hn : narrow ty v = v) (hf : fits ty v = true) (hna : n0 ≤ a) (hd : decode bytes pc = .ok (.putfield i, 3)) (hp : pc + 3 = pc')
    (k : ∀ h', Wr h h' a (slotOf Z O n d) v → OW p l e R s m args below meth c n0 Q K N h' cl sl (mkF m pc' ls st)) : OW p l e R s m args below meth c n0 Q K N h cl sl (mkF m pc ls (v :: .ref a :: st)) := fun T locs ⟨X, N0, e0, bc, bs⟩ => by
  subst hp
  obtain ⟨T', h', X', e', W, kk⟩ := RoadKit.putF X C.1 C.2.2.1 C.2.2.2.1 w via e0 F E (L.imp id fun q => ⟨q.1, q.2.1, C.2.2.2.2.2.2.2.trans q.2.2⟩) wi hty hn hf (g := mkF m pc ls (v :: .ref a :: st)) rfl rfl (C.d hd)
  obtain ⟨s₂, o, q, r⟩ := k h' W T' _ ⟨X', Fr.snoc X' N0 hna, e', bc, bs⟩
  exact ⟨s₂, o, kk _ q, r⟩
theorem OW.newO (C : OC p s m meth c Z own nm bytes ml ret) {Cl : String} {i nn : Nat} (w : (Cond.classLink own i Cl).before a0 Z = true) (wi : (Cond.instantiable Cl nn).before a0 Z = true) (wz : (Cond.initialized Cl).before a0 Z = true) (hd : decode bytes pc = .ok (.new i, 3)) (hc : cl + 1 ≤ R.cells) (hl : sl + nn ≤ R.slots) (hp : pc + 3 = pc')
    (k : ∀ (a : Addr) h', h.size = a → Ext h h' → Exa Z h' a Cl → (∀ {O nm d : String} {ty : FieldType}, Laid Z a0 Cl O nm d → parseFieldDescriptor d = some ty → Fld Z h' a O nm d (defaultValue ty)) → OW p l e R s m args below meth c n0 Q K N h' (cl + 1) (sl + nn) (mkF m pc' ls (.ref a :: st))) : OW p l e R s m args below meth c n0 Q K N h cl sl (mkF m pc ls st) := fun T locs ⟨X, N0, e0, bc, bs⟩ => by
  subst hp
  obtain ⟨T', h', X', e', E, A, D, -, kk⟩ := RoadKit.newO X C.1 C.2.2.1 C.2.2.2.1 w wi wz e0 (g := mkF m pc ls st) rfl (C.d hd) hc hl
  obtain ⟨s₂, o, q, r⟩ := k _ h' rfl E A D T' _ ⟨X', N0, e', hc, hl⟩
  exact ⟨s₂, o, kk _ q, r⟩
theorem OW.newP (C : OC p s m meth c Z own nm bytes ml ret) {aty : ArrayType} {n : Int32} {cap : Nat} {ty : FieldType} (hty : newarray.typeOf aty = ty) (w : (Cond.arrayClass ty).before a0 Z = true) (hn : ¬ n < 0) (hcap : n.toNatClampNeg = cap) (hb : cap * 8 ≤ 536870912) (hd : decode bytes pc = .ok (.newarray aty, 2)) (hc : cl + 1 ≤ R.cells) (hl : sl + cap ≤ R.slots) (hp : pc + 2 = pc')
    (k : ∀ (a : Addr) h', h.size = a → Ext h h' → OA Z h' a ty (List.replicate cap (defaultValue ty)) → OW p l e R s m args below meth c n0 Q K N h' (cl + 1) (sl + cap) (mkF m pc' ls (.ref a :: st))) : OW p l e R s m args below meth c n0 Q K N h cl sl (mkF m pc ls (.int n :: st)) := fun T locs ⟨X, N0, e0, bc, bs⟩ => by
  subst hp hty
  obtain ⟨T', h', cA, X', e', E, A, kk⟩ := RoadKit.newP X C.1 C.2.2.1 w e0 (g := mkF m pc ls (.int n :: st)) rfl (C.d hd) rfl hn (Nat.le_of_eq hcap) hb hc hl
  obtain ⟨s₂, o, q, r⟩ := k _ h' rfl E (OA.new A hcap) T' _ ⟨X', N0, e', hc, hl⟩
  exact ⟨s₂, o, kk _ q, r⟩
theorem OW.lastore (C : OC p s m meth c Z own nm bytes ml ret) {a : Addr} {j : Int32} {x : Int64} {vs : List Value} (F : OA Z h a .long vs) (q : 0 ≤ j.toInt ∧ j.toInt < vs.length) (hna : n0 ≤ a) (hd : decode bytes pc = .ok (.lastore, 1)) (hp : pc + 1 = pc')
    (k : ∀ h', Wr h h' a j.toNatClampNeg (.long x) → OW p l e R s m args below meth c n0 Q K N h' cl sl (mkF m pc' ls st)) : OW p l e R s m args below meth c n0 Q K N h cl sl (mkF m pc ls (.long x :: .int j :: .ref a :: st)) := fun T locs ⟨X, N0, e0, bc, bs⟩ => by
  subst hp
  obtain ⟨cc, A, r⟩ := F
  obtain ⟨T', h', X', e', W, kk⟩ := stJ X C.1 C.2.2.1 e0 A (OA.inb r q) (g := mkF m pc ls (.long x :: .int j :: .ref a :: st)) rfl rfl (C.d hd)
  obtain ⟨s₂, o, q, r⟩ := k h' W T' _ ⟨X', Fr.snoc X' N0 hna, e', bc, bs⟩
  exact ⟨s₂, o, kk _ q, r⟩
theorem OW.iastore (C : OC p s m meth c Z own nm bytes ml ret) {a : Addr} {j x : Int32} {vs : List Value} (F : OA Z h a .int vs) (q : 0 ≤ j.toInt ∧ j.toInt < vs.length) (hna : n0 ≤ a) (hd : decode bytes pc = .ok (.iastore, 1)) (hp : pc + 1 = pc')
    (k : ∀ h', Wr h h' a j.toNatClampNeg (.int x) → OW p l e R s m args below meth c n0 Q K N h' cl sl (mkF m pc' ls st)) : OW p l e R s m args below meth c n0 Q K N h cl sl (mkF m pc ls (.int x :: .int j :: .ref a :: st)) := fun T locs ⟨X, N0, e0, bc, bs⟩ => by
  subst hp
  obtain ⟨cc, A, r⟩ := F
  obtain ⟨T', h', X', e', W, kk⟩ := stI X C.1 C.2.2.1 e0 A (OA.inb r q) (g := mkF m pc ls (.int x :: .int j :: .ref a :: st)) rfl rfl (C.d hd)
  obtain ⟨s₂, o, q, r⟩ := k h' W T' _ ⟨X', Fr.snoc X' N0 hna, e', bc, bs⟩
  exact ⟨s₂, o, kk _ q, r⟩
theorem OW.bastore (C : OC p s m meth c Z own nm bytes ml ret) {a : Addr} {j x : Int32} {vs : List Value} (F : OA Z h a .byte vs) (q : 0 ≤ j.toInt ∧ j.toInt < vs.length) (hna : n0 ≤ a) (hd : decode bytes pc = .ok (.bastore, 1)) (hp : pc + 1 = pc')
    (k : ∀ h', Wr h h' a j.toNatClampNeg (.int (nar .byte x)) → OW p l e R s m args below meth c n0 Q K N h' cl sl (mkF m pc' ls st)) : OW p l e R s m args below meth c n0 Q K N h cl sl (mkF m pc ls (.int x :: .int j :: .ref a :: st)) := fun T locs ⟨X, N0, e0, bc, bs⟩ => by
  subst hp
  obtain ⟨cc, A, r⟩ := F
  obtain ⟨T', h', X', e', W, kk⟩ := stB X C.1 C.2.2.1 e0 A (OA.inb r q) (g := mkF m pc ls (.int x :: .int j :: .ref a :: st)) rfl rfl (C.d hd)
  obtain ⟨s₂, o, q, r⟩ := k h' W T' _ ⟨X', Fr.snoc X' N0 hna, e', bc, bs⟩
  exact ⟨s₂, o, kk _ q, r⟩
theorem OW.castore (C : OC p s m meth c Z own nm bytes ml ret) {a : Addr} {j x : Int32} {vs : List Value} (F : OA Z h a .char vs) (q : 0 ≤ j.toInt ∧ j.toInt < vs.length) (hna : n0 ≤ a) (hd : decode bytes pc = .ok (.castore, 1)) (hp : pc + 1 = pc')
    (k : ∀ h', Wr h h' a j.toNatClampNeg (.int (nar .char x)) → OW p l e R s m args below meth c n0 Q K N h' cl sl (mkF m pc' ls st)) : OW p l e R s m args below meth c n0 Q K N h cl sl (mkF m pc ls (.int x :: .int j :: .ref a :: st)) := fun T locs ⟨X, N0, e0, bc, bs⟩ => by
  subst hp
  obtain ⟨cc, A, r⟩ := F
  obtain ⟨T', h', X', e', W, kk⟩ := stC X C.1 C.2.2.1 e0 A (OA.inb r q) (g := mkF m pc ls (.int x :: .int j :: .ref a :: st)) rfl rfl (C.d hd)
  obtain ⟨s₂, o, q, r⟩ := k h' W T' _ ⟨X', Fr.snoc X' N0 hna, e', bc, bs⟩
  exact ⟨s₂, o, kk _ q, r⟩
theorem OG.initO (C : OC p s m meth c Z own nm bytes ml ret) {i W : Nat} {a : Addr} (w1 : (Cond.methodLink own i Lib.objectInit).before a0 Z = true) (w2 : (Cond.instanceMethod Lib.objectInit).before a0 Z = true) (w3 : (Cond.code Lib.objectInit ⟨#[0xb1]⟩ 1 none).before a0 Z = true) (hd : decode bytes pc = .ok (.invokespecial i, 3)) (hsz : ls.size = ml) (hf : 1 ≤ R.frames) (hW : (st.map fun v => v.category).sum = W) (hl : W + 12 ≤ R.locals) (hp : pc + 3 = pc') :
    OG p l e R s m args below meth c n0 h (mkF m pc ls (.ref a :: st)) (mkF m pc' ls st) := by
  subst hp
  rintro T locs cl sl ⟨X, N0, e0, bc, bs⟩
  obtain ⟨T', X', e', k⟩ := RoadKit.initO X C.1 C.2.2.1 C.2.2.2.1 w1 w2 w3 e0 (g := mkF m pc ls (.ref a :: st)) rfl (by rw [C.2.2.2.2.1]; exact hsz) rfl (C.d hd) hf (W := W) (by show 2 * 0 + _ ≤ _; omega) hl
  exact ⟨T', locs, ⟨X', N0, e', bc, bs⟩, k⟩
/-! contracts and calls -/
def OM (l : Launch) (Z : State) (y : MethodName) (bytes : ByteArray) (ml : Nat) (ret : Option FieldType) (rm : Room) (n0 : Nat) (h : Heap) (as' : Array Value) (Q : Option Value → Heap → Prop) (K N : Nat) : Prop :=
  ∀ ws : List Cond, MetFree l y (head1 (Cond.code y bytes ml ret :: ws) rm) (fun a U => a = as' ∧ Z.Warmed39 U.vm ∧ U.heap = h) (fun _ _ _ _ _ => True) (fun _ U o U' => ∃ v L, o = .returned v ∧ (Q v U'.heap ∧ Fr n0 L) ∧ FrameEnd U o U' L K N)
theorem OM.of_body {y : MethodName} {rm : Room} {as' : Array Value} (hy : plainFor y = true) (hef : ∀ m, entryFrame m as' ml = mkF m 0 ls [])
    (body : ∀ (p : Program) (e : Env) (s : State) (m : MethodId) (below : List Frame) (meth : Method) (c : Code), OC p s m meth c Z y.cls y.name bytes ml ret → OW p l e rm s m as' below meth c n0 Q K N h 0 0 (mkF m 0 ls [])) : OM l Z y bytes ml ret rm n0 h as' Q K N := by
  intro ws
  refine MetFree.of_bodySF hy hisR ?_
  intro p e s m args below meth c s₁ Bd hml0 hP hK
  obtain ⟨rfl, hZ, hh⟩ := hP
  have e0 : s₁.heap = h := by rw [← hh, Bd.state]; rfl
  have X0 : Stand p l e rm s m args below meth c s₁ [] 0 0 := Stand.of_body Bd
  rw [hef m]
  exact body p e s m below meth c ⟨Bd.exec, Bd.bytes, hZ, findClass_of_methodNamed Bd.named, hml0, Bd.returns, Bd.notSynchronized, (name_of_methodNamed Bd.named Bd.method).1⟩ s₁ [] ⟨X0, Fr.nil n0, e0, Nat.zero_le _, Nat.zero_le _⟩
theorem OW.callS (C : OC p s m meth c Z own nm bytes ml ret) {i : Nat} {y : MethodName} {bytes' : ByteArray} {ml' W : Nat} {ret' r0 : Option FieldType} {rm : Room} {argsL rest : List Value} {ps : List FieldType} {Q' : Option Value → Heap → Prop}
    (w1 : (Cond.methodLink own i y).before a0 Z = true) (w2 : (Cond.static y).before a0 Z = true) (w3 : (Cond.initialized y.cls).before a0 Z = true) (w4 : (Cond.code y bytes' ml' ret').before a0 Z = true) (hy : y.cls ≠ "java/lang/invoke/MethodHandle" ∧ y.cls ≠ "java/lang/invoke/VarHandle")
    (hM : OM l Z y bytes' ml' ret' rm n0 h argsL.toArray Q' rm.cells rm.slots) (hd : decode bytes pc = .ok (.invokestatic i, 3)) (hpd : parseMethodDescriptor y.desc = some ⟨ps, r0⟩) (hlen : argsL.length = ps.length) (hst : st = argsL.reverse ++ rest) (hsz : ls.size = ml) (hW : (rest.map fun v => v.category).sum = W)
    (hf : rm.frames + 1 ≤ R.frames) (hlo : W + (ml' + 11) + rm.locals ≤ R.locals) (hcl : cl + rm.cells ≤ R.cells) (hsl : sl + rm.slots ≤ R.slots) (hp : pc + 3 = pc')
    (k : ∀ v h', Q' v h' → OW p l e R s m args below meth c n0 Q K N h' (cl + rm.cells) (sl + rm.slots) (mkF m pc' ls (v.toList ++ rest))) : OW p l e R s m args below meth c n0 Q K N h cl sl (mkF m pc ls st) := fun T locs ⟨X, N0, e0, bc, bs⟩ => by
  subst hp
  obtain ⟨v, vm, ⟨T', L', cl', sl'⟩, -, X', ⟨Lc, ⟨hQ, hL⟩, e1, e2, e3⟩, kk⟩ := Jvm.LawKit.callS X C.1 C.2.2.2.1 (mv C.2.2.1 w1) (mv C.2.2.1 w2) (mv C.2.2.1 w3) (mv C.2.2.1 w4) hy (backOf (W := W) (Q := fun v h L => Q' v h ∧ Fr n0 L) (hM []) C.2.2.1 w4 w3 hf hlo) (g := mkF m pc ls st) rfl (by rw [C.2.2.2.2.1]; exact hsz) (argsL := argsL) (rest := rest) (lenOf hpd hlen) hst (by show 2 * 0 + _ ≤ _; omega) (C.d hd) (fun _ _ => ⟨rfl, e0, hcl, hsl⟩)
  dsimp only [Pt.U, Pt.locs, Pt.cells, Pt.slots] at X' e1 e2 e3 kk hQ
  subst e1 e2 e3
  obtain ⟨s₂, o, q, r⟩ := k v _ hQ T' _ ⟨X', Fr.app N0 hL, rfl, hcl, hsl⟩
  exact ⟨s₂, o, kk _ q, r⟩
theorem OG.callS (C : OC p s m meth c Z own nm bytes ml ret) {i : Nat} {y : MethodName} {bytes' : ByteArray} {ml' W fr lo : Nat} {ret' r0 : Option FieldType} {argsL rest : List Value} {ps : List FieldType} {w : Value}
    (w1 : (Cond.methodLink own i y).before a0 Z = true) (w2 : (Cond.static y).before a0 Z = true) (w3 : (Cond.initialized y.cls).before a0 Z = true) (w4 : (Cond.code y bytes' ml' ret').before a0 Z = true) (hy : y.cls ≠ "java/lang/invoke/MethodHandle" ∧ y.cls ≠ "java/lang/invoke/VarHandle")
    (hM : OM l Z y bytes' ml' ret' ⟨fr, 0, 0, lo⟩ n0 h argsL.toArray (fun v h' => v = some w ∧ h' = h) 0 0) (hd : decode bytes pc = .ok (.invokestatic i, 3)) (hpd : parseMethodDescriptor y.desc = some ⟨ps, r0⟩) (hlen : argsL.length = ps.length) (hst : st = argsL.reverse ++ rest) (hsz : ls.size = ml) (hW : (rest.map fun v => v.category).sum = W)
    (hf : fr + 1 ≤ R.frames) (hlo : W + (ml' + 11) + lo ≤ R.locals) (hp : pc + 3 = pc') :
    OG p l e R s m args below meth c n0 h (mkF m pc ls st) (mkF m pc' ls (w :: rest)) := fun T locs cl sl ⟨X, N0, e0, bc, bs⟩ => by
  subst hp
  obtain ⟨v, vm, ⟨T', L', cl', sl'⟩, -, X', ⟨Lc, ⟨⟨rfl, hQ⟩, hL⟩, e1, e2, e3⟩, kk⟩ := Jvm.LawKit.callS X C.1 C.2.2.2.1 (mv C.2.2.1 w1) (mv C.2.2.1 w2) (mv C.2.2.1 w3) (mv C.2.2.1 w4) hy (backOf (W := W) (Q := fun v h' L => (v = some w ∧ h' = h) ∧ Fr n0 L) (hM []) C.2.2.1 w4 w3 hf hlo) (g := mkF m pc ls st) rfl (by rw [C.2.2.2.2.1]; exact hsz) (argsL := argsL) (rest := rest) (lenOf hpd hlen) hst (by show 2 * 0 + _ ≤ _; omega) (C.d hd) (fun _ _ => ⟨rfl, e0, bc, bs⟩)
  dsimp only [Pt.U, Pt.locs, Pt.cells, Pt.slots] at X' e1 e2 e3 kk hQ
  subst e1 e2 e3
  exact ⟨T', _, ⟨X', Fr.app N0 hL, hQ, bc, bs⟩, kk⟩
theorem OG.callSV (C : OC p s m meth c Z own nm bytes ml ret) {i : Nat} {y : MethodName} {bytes' : ByteArray} {ml' W fr lo : Nat} {ret' r0 : Option FieldType} {argsL rest : List Value} {ps : List FieldType}
    (w1 : (Cond.methodLink own i y).before a0 Z = true) (w2 : (Cond.static y).before a0 Z = true) (w3 : (Cond.initialized y.cls).before a0 Z = true) (w4 : (Cond.code y bytes' ml' ret').before a0 Z = true) (hy : y.cls ≠ "java/lang/invoke/MethodHandle" ∧ y.cls ≠ "java/lang/invoke/VarHandle")
    (hM : OM l Z y bytes' ml' ret' ⟨fr, 0, 0, lo⟩ n0 h argsL.toArray (fun v h' => v = none ∧ h' = h) 0 0) (hd : decode bytes pc = .ok (.invokestatic i, 3)) (hpd : parseMethodDescriptor y.desc = some ⟨ps, r0⟩) (hlen : argsL.length = ps.length) (hst : st = argsL.reverse ++ rest) (hsz : ls.size = ml) (hW : (rest.map fun v => v.category).sum = W)
    (hf : fr + 1 ≤ R.frames) (hlo : W + (ml' + 11) + lo ≤ R.locals) (hp : pc + 3 = pc') :
    OG p l e R s m args below meth c n0 h (mkF m pc ls st) (mkF m pc' ls rest) := fun T locs cl sl ⟨X, N0, e0, bc, bs⟩ => by
  subst hp
  obtain ⟨v, vm, ⟨T', L', cl', sl'⟩, -, X', ⟨Lc, ⟨⟨rfl, hQ⟩, hL⟩, e1, e2, e3⟩, kk⟩ := Jvm.LawKit.callS X C.1 C.2.2.2.1 (mv C.2.2.1 w1) (mv C.2.2.1 w2) (mv C.2.2.1 w3) (mv C.2.2.1 w4) hy (backOf (W := W) (Q := fun v h' L => (v = none ∧ h' = h) ∧ Fr n0 L) (hM []) C.2.2.1 w4 w3 hf hlo) (g := mkF m pc ls st) rfl (by rw [C.2.2.2.2.1]; exact hsz) (argsL := argsL) (rest := rest) (lenOf hpd hlen) hst (by show 2 * 0 + _ ≤ _; omega) (C.d hd) (fun _ _ => ⟨rfl, e0, bc, bs⟩)
  dsimp only [Pt.U, Pt.locs, Pt.cells, Pt.slots] at X' e1 e2 e3 kk hQ
  subst e1 e2 e3
  exact ⟨T', _, ⟨X', Fr.app N0 hL, hQ, bc, bs⟩, kk⟩
theorem OW.init (C : OC p s m meth c Z own nm bytes ml ret) {i : Nat} {y : MethodName} {bytes' : ByteArray} {ml' W : Nat} {r0 : Option FieldType} {rm : Room} {argsL rest : List Value} {ps : List FieldType} {Q' : Option Value → Heap → Prop} {a : Addr}
    (w1 : (Cond.methodLink own i y).before a0 Z = true) (w2 : (Cond.instanceMethod y).before a0 Z = true) (w3 : (Cond.initialized y.cls).before a0 Z = true) (w4 : (Cond.code y bytes' ml' none).before a0 Z = true) (hyi : y.name = "<init>") (hy : y.cls ≠ "java/lang/invoke/MethodHandle" ∧ y.cls ≠ "java/lang/invoke/VarHandle")
    (hM : OM l Z y bytes' ml' none rm n0 h (.ref a :: argsL).toArray Q' rm.cells rm.slots) (hd : decode bytes pc = .ok (.invokespecial i, 3)) (hpd : parseMethodDescriptor y.desc = some ⟨ps, r0⟩) (hlen : argsL.length = ps.length) (hst : st = argsL.reverse ++ .ref a :: rest) (hsz : ls.size = ml) (hW : (rest.map fun v => v.category).sum = W)
    (hf : rm.frames + 1 ≤ R.frames) (hlo : W + (ml' + 11) + rm.locals ≤ R.locals) (hcl : cl + rm.cells ≤ R.cells) (hsl : sl + rm.slots ≤ R.slots) (hp : pc + 3 = pc')
    (k : ∀ v h', Q' v h' → OW p l e R s m args below meth c n0 Q K N h' (cl + rm.cells) (sl + rm.slots) (mkF m pc' ls (v.toList ++ rest))) : OW p l e R s m args below meth c n0 Q K N h cl sl (mkF m pc ls st) := fun T locs ⟨X, N0, e0, bc, bs⟩ => by
  subst hp
  obtain ⟨v, vm, ⟨T', L', cl', sl'⟩, -, X', ⟨Lc, ⟨hQ, hL⟩, e1, e2, e3⟩, kk⟩ := X.specialBack C.1 hyi C.2.2.2.1 (mv C.2.2.1 w1) (mv C.2.2.1 w2) (mv C.2.2.1 w4) hy (backOf (W := W) (Q := fun v h L => Q' v h ∧ Fr n0 L) (hM []) C.2.2.1 w4 w3 hf hlo) (g := mkF m pc ls st) rfl (by rw [C.2.2.2.2.1]; exact hsz) (Steps.refl _) (a := a) (argsL := argsL) (rest := rest) (lenOf hpd hlen) hst (by show 2 * 0 + _ ≤ _; omega) (C.d hd) (fun _ _ => ⟨rfl, e0, hcl, hsl⟩)
  dsimp only [Pt.U, Pt.locs, Pt.cells, Pt.slots] at X' e1 e2 e3 kk hQ
  subst e1 e2 e3
  obtain ⟨s₂, o, q, r⟩ := k v _ hQ T' _ ⟨X', Fr.app N0 hL, rfl, hcl, hsl⟩
  exact ⟨s₂, o, kk.trans q, r⟩
theorem OG.init (C : OC p s m meth c Z own nm bytes ml ret) {i : Nat} {y : MethodName} {bytes' : ByteArray} {ml' W fr lo : Nat} {r0 : Option FieldType} {argsL rest : List Value} {ps : List FieldType} {a : Addr}
    (w1 : (Cond.methodLink own i y).before a0 Z = true) (w2 : (Cond.instanceMethod y).before a0 Z = true) (w3 : (Cond.initialized y.cls).before a0 Z = true) (w4 : (Cond.code y bytes' ml' none).before a0 Z = true) (hyi : y.name = "<init>") (hy : y.cls ≠ "java/lang/invoke/MethodHandle" ∧ y.cls ≠ "java/lang/invoke/VarHandle")
    (hM : OM l Z y bytes' ml' none ⟨fr, 0, 0, lo⟩ n0 h (.ref a :: argsL).toArray (fun v h' => v = none ∧ h' = h) 0 0) (hd : decode bytes pc = .ok (.invokespecial i, 3)) (hpd : parseMethodDescriptor y.desc = some ⟨ps, r0⟩) (hlen : argsL.length = ps.length) (hst : st = argsL.reverse ++ .ref a :: rest) (hsz : ls.size = ml) (hW : (rest.map fun v => v.category).sum = W)
    (hf : fr + 1 ≤ R.frames) (hlo : W + (ml' + 11) + lo ≤ R.locals) (hp : pc + 3 = pc') :
    OG p l e R s m args below meth c n0 h (mkF m pc ls st) (mkF m pc' ls rest) := fun T locs cl sl ⟨X, N0, e0, bc, bs⟩ => by
  subst hp
  obtain ⟨v, vm, ⟨T', L', cl', sl'⟩, -, X', ⟨Lc, ⟨⟨rfl, hQ⟩, hL⟩, e1, e2, e3⟩, kk⟩ := X.specialBack C.1 hyi C.2.2.2.1 (mv C.2.2.1 w1) (mv C.2.2.1 w2) (mv C.2.2.1 w4) hy (backOf (W := W) (Q := fun v h' L => (v = none ∧ h' = h) ∧ Fr n0 L) (hM []) C.2.2.1 w4 w3 hf hlo) (g := mkF m pc ls st) rfl (by rw [C.2.2.2.2.1]; exact hsz) (Steps.refl _) (a := a) (argsL := argsL) (rest := rest) (lenOf hpd hlen) hst (by show 2 * 0 + _ ≤ _; omega) (C.d hd) (fun _ _ => ⟨rfl, e0, bc, bs⟩)
  dsimp only [Pt.U, Pt.locs, Pt.cells, Pt.slots] at X' e1 e2 e3 kk hQ
  subst e1 e2 e3
  exact ⟨T', _, ⟨X', Fr.app N0 hL, hQ, bc, bs⟩, fun t q => kk.trans q⟩
theorem OW.callV (C : OC p s m meth c Z own nm bytes ml ret) {i : Nat} {y : MethodName} {bytes' : ByteArray} {ml' W : Nat} {ret' r0 : Option FieldType} {rm : Room} {argsL rest : List Value} {ps : List FieldType} {Q' : Option Value → Heap → Prop} {a : Addr} {Cl : String}
    (w1 : (Cond.methodLink own i y).before a0 Z = true) (wd : (Cond.declares y).before a0 Z = true) (ws : (Cond.selects Cl y y).before a0 Z = true) (w2 : (Cond.instanceMethod y).before a0 Z = true) (w3 : (Cond.initialized y.cls).before a0 Z = true) (w4 : (Cond.code y bytes' ml' ret').before a0 Z = true) (hy : y.cls ≠ "java/lang/invoke/MethodHandle" ∧ y.cls ≠ "java/lang/invoke/VarHandle") (E : Exa Z h a Cl)
    (hM : OM l Z y bytes' ml' ret' rm n0 h (.ref a :: argsL).toArray Q' rm.cells rm.slots) (hd : decode bytes pc = .ok (.invokevirtual i, 3)) (hpd : parseMethodDescriptor y.desc = some ⟨ps, r0⟩) (hlen : argsL.length = ps.length) (hst : st = argsL.reverse ++ .ref a :: rest) (hsz : ls.size = ml) (hW : (rest.map fun v => v.category).sum = W)
    (hf : rm.frames + 1 ≤ R.frames) (hlo : W + (ml' + 11) + rm.locals ≤ R.locals) (hcl : cl + rm.cells ≤ R.cells) (hsl : sl + rm.slots ≤ R.slots) (hp : pc + 3 = pc')
    (k : ∀ v h', Q' v h' → OW p l e R s m args below meth c n0 Q K N h' (cl + rm.cells) (sl + rm.slots) (mkF m pc' ls (v.toList ++ rest))) : OW p l e R s m args below meth c n0 Q K N h cl sl (mkF m pc ls st) := fun T locs ⟨X, N0, e0, bc, bs⟩ => by
  subst hp
  obtain ⟨cq, kq, qa, qb, qc⟩ := isOf C.2.2.1 e0 E
  obtain ⟨v, vm, ⟨T', L', cl', sl'⟩, -, X', ⟨Lc, ⟨hQ, hL⟩, e1, e2, e3⟩, kk⟩ := X.virtualBack C.1 C.2.2.2.1 (mv C.2.2.1 w1) (mv C.2.2.1 wd) (notFace_of_selects (args := #[]) (mv C.2.2.1 ws)) (mv C.2.2.1 ws) (mv C.2.2.1 w2) hy (backOf (W := W) (Q := fun v h L => Q' v h ∧ Fr n0 L) (hM []) C.2.2.1 w4 w3 hf hlo) qa qc (g := mkF m pc ls st) rfl (by rw [C.2.2.2.2.1]; exact hsz) (Steps.refl _) (argsL := argsL) (rest := rest) (lenOf hpd hlen) hst (by show 2 * 0 + _ ≤ _; omega) (C.d hd) (fun _ _ => ⟨rfl, e0, hcl, hsl⟩)
  dsimp only [Pt.U, Pt.locs, Pt.cells, Pt.slots] at X' e1 e2 e3 kk hQ
  subst e1 e2 e3
  obtain ⟨s₂, o, q, r⟩ := k v _ hQ T' _ ⟨X', Fr.app N0 hL, rfl, hcl, hsl⟩
  exact ⟨s₂, o, kk.trans q, r⟩
theorem OG.callV (C : OC p s m meth c Z own nm bytes ml ret) {i : Nat} {y : MethodName} {bytes' : ByteArray} {ml' W fr lo : Nat} {ret' r0 : Option FieldType} {argsL rest : List Value} {ps : List FieldType} {w : Value} {a : Addr} {Cl : String}
    (w1 : (Cond.methodLink own i y).before a0 Z = true) (wd : (Cond.declares y).before a0 Z = true) (ws : (Cond.selects Cl y y).before a0 Z = true) (w2 : (Cond.instanceMethod y).before a0 Z = true) (w3 : (Cond.initialized y.cls).before a0 Z = true) (w4 : (Cond.code y bytes' ml' ret').before a0 Z = true) (hy : y.cls ≠ "java/lang/invoke/MethodHandle" ∧ y.cls ≠ "java/lang/invoke/VarHandle") (E : Exa Z h a Cl)
    (hM : OM l Z y bytes' ml' ret' ⟨fr, 0, 0, lo⟩ n0 h (.ref a :: argsL).toArray (fun v h' => v = some w ∧ h' = h) 0 0) (hd : decode bytes pc = .ok (.invokevirtual i, 3)) (hpd : parseMethodDescriptor y.desc = some ⟨ps, r0⟩) (hlen : argsL.length = ps.length) (hst : st = argsL.reverse ++ .ref a :: rest) (hsz : ls.size = ml) (hW : (rest.map fun v => v.category).sum = W)
    (hf : fr + 1 ≤ R.frames) (hlo : W + (ml' + 11) + lo ≤ R.locals) (hp : pc + 3 = pc') :
    OG p l e R s m args below meth c n0 h (mkF m pc ls st) (mkF m pc' ls (w :: rest)) := fun T locs cl sl ⟨X, N0, e0, bc, bs⟩ => by
  subst hp
  obtain ⟨cq, kq, qa, qb, qc⟩ := isOf C.2.2.1 e0 E
  obtain ⟨v, vm, ⟨T', L', cl', sl'⟩, -, X', ⟨Lc, ⟨⟨rfl, hQ⟩, hL⟩, e1, e2, e3⟩, kk⟩ := X.virtualBack C.1 C.2.2.2.1 (mv C.2.2.1 w1) (mv C.2.2.1 wd) (notFace_of_selects (args := #[]) (mv C.2.2.1 ws)) (mv C.2.2.1 ws) (mv C.2.2.1 w2) hy (backOf (W := W) (Q := fun v h' L => (v = some w ∧ h' = h) ∧ Fr n0 L) (hM []) C.2.2.1 w4 w3 hf hlo) qa qc (g := mkF m pc ls st) rfl (by rw [C.2.2.2.2.1]; exact hsz) (Steps.refl _) (argsL := argsL) (rest := rest) (lenOf hpd hlen) hst (by show 2 * 0 + _ ≤ _; omega) (C.d hd) (fun _ _ => ⟨rfl, e0, bc, bs⟩)
  dsimp only [Pt.U, Pt.locs, Pt.cells, Pt.slots] at X' e1 e2 e3 kk hQ
  subst e1 e2 e3
  exact ⟨T', _, ⟨X', Fr.app N0 hL, hQ, bc, bs⟩, fun t q => kk.trans q⟩
theorem OG.callI (C : OC p s m meth c Z own nm bytes ml ret) {i cnt : Nat} {xi y : MethodName} {bytes' : ByteArray} {ml' W fr lo : Nat} {ret' r0 : Option FieldType} {argsL rest : List Value} {ps : List FieldType} {w : Value} {a : Addr} {Cl : String}
    (w1 : (Cond.methodLink own i xi).before a0 Z = true) (wd : (Cond.declares xi).before a0 Z = true) (wf : (Cond.interfaceMethod xi.cls xi.cls xi.name xi.desc).before a0 Z = true) (ws : (Cond.selects Cl xi y).before a0 Z = true) (w2 : (Cond.instanceMethod y).before a0 Z = true) (wp : (Cond.publicMethod y).before a0 Z = true) (wu : (Cond.unhidden Cl xi.name xi.desc).before a0 Z = true) (wc : (Cond.castable Cl xi.cls).before a0 Z = true)
    (w3 : (Cond.initialized y.cls).before a0 Z = true) (w4 : (Cond.code y bytes' ml' ret').before a0 Z = true) (hfa : ((Cond.interfaceMethod xi.cls xi.cls xi.name xi.desc).onTables && (Cond.interfaceMethod xi.cls xi.cls xi.name xi.desc).keepsFace) = true) (hy : xi.cls ≠ "java/lang/invoke/MethodHandle" ∧ xi.cls ≠ "java/lang/invoke/VarHandle") (E : Exa Z h a Cl)
    (hM : OM l Z y bytes' ml' ret' ⟨fr, 0, 0, lo⟩ n0 h (.ref a :: argsL).toArray (fun v h' => v = some w ∧ h' = h) 0 0) (hd : decode bytes pc = .ok (.invokeinterface i cnt, 5)) (hpd : parseMethodDescriptor xi.desc = some ⟨ps, r0⟩) (hlen : argsL.length = ps.length) (hst : st = argsL.reverse ++ .ref a :: rest) (hsz : ls.size = ml) (hW : (rest.map fun v => v.category).sum = W)
    (hf : fr + 1 ≤ R.frames) (hlo : W + (ml' + 11) + lo ≤ R.locals) (hp : pc + 5 = pc') :
    OG p l e R s m args below meth c n0 h (mkF m pc ls st) (mkF m pc' ls (w :: rest)) := fun T locs cl sl ⟨X, N0, e0, bc, bs⟩ => by
  subst hp
  obtain ⟨cq, kq, qa, qb, qc⟩ := isOf C.2.2.1 e0 E
  obtain ⟨v, vm, ⟨T', L', cl', sl'⟩, -, X', ⟨Lc, ⟨⟨rfl, hQ⟩, hL⟩, e1, e2, e3⟩, kk⟩ := X.interfaceBack C.1 C.2.2.2.1 (mv C.2.2.1 w1) (mv C.2.2.1 wd) (mv C.2.2.1 wf hfa) (mv C.2.2.1 ws) (mv C.2.2.1 w2) (mv C.2.2.1 wp) (mv C.2.2.1 wu) (mv C.2.2.1 wc) hy (backOf (W := W) (Q := fun v h' L => (v = some w ∧ h' = h) ∧ Fr n0 L) (hM []) C.2.2.1 w4 w3 hf hlo) qa qb qc (g := mkF m pc ls st) rfl (by rw [C.2.2.2.2.1]; exact hsz) (Steps.refl _) (argsL := argsL) (rest := rest) (lenOf hpd hlen) hst (by show 2 * 0 + _ ≤ _; omega) (C.d hd) (fun _ _ => ⟨rfl, e0, bc, bs⟩)
  dsimp only [Pt.U, Pt.locs, Pt.cells, Pt.slots] at X' e1 e2 e3 kk hQ
  subst e1 e2 e3
  exact ⟨T', _, ⟨X', Fr.app N0 hL, hQ, bc, bs⟩, fun t q => kk.trans q⟩
theorem own_nb (c : Int32) : nar .byte c.toInt8.toInt32 = c.toInt8.toInt32 := by
  show c.toInt8.toInt32.toInt8.toInt32 = _
  have q := c_i2b c
  have q2 := c_i2b c.toInt8.toInt32
  apply Int32.toInt_inj.mp
  omega
theorem Exa.pl {h : Heap} {a : Addr} {C : String} (F : Exa Z h a C) : ∃ c : Cell, h[a]? = some c ∧ c.vm.isStatics = false := by obtain ⟨c, _, h1, -, -, h4, -⟩ := F; exact ⟨c, h1, h4⟩
theorem OA.pl {a : Addr} {ty : FieldType} {vs : List Value} (F : OA Z h a ty vs) : ∃ c : Cell, h[a]? = some c ∧ c.vm.isStatics = false := by obtain ⟨c, A, -⟩ := F; exact ⟨c, A.1, A.plain⟩
theorem OPl.ext {h h' : Heap} {a : Addr} (F : ∃ c : Cell, h[a]? = some c ∧ c.vm.isStatics = false) (E : Ext h h') : ∃ c : Cell, h'[a]? = some c ∧ c.vm.isStatics = false := by obtain ⟨c, h1, h2⟩ := F; exact ⟨c, E.2 _ _ h1, h2⟩
theorem OPl.wr {h h' : Heap} {a b : Addr} {k : Nat} {v : Value} (F : ∃ c : Cell, h[a]? = some c ∧ c.vm.isStatics = false) (W : Wr h h' b k v) : ∃ c : Cell, h'[a]? = some c ∧ c.vm.isStatics = false := by
  obtain ⟨c, h1, h2⟩ := F
  obtain ⟨c', e1, -, e3, -⟩ := wr_at W h1
  exact ⟨c', e1, by rw [e3]; exact h2⟩
theorem OPl.keep {h h' : Heap} {a : Addr} {ws : List Addr} (F : ∃ c : Cell, h[a]? = some c ∧ c.vm.isStatics = false) (K : Keep h h' ws) : ∃ c : Cell, h'[a]? = some c ∧ c.vm.isStatics = false := by
  obtain ⟨c, h1, h2⟩ := F
  obtain ⟨c', e1, -, e3, -⟩ := K.2.2 _ _ h1
  exact ⟨c', e1, by rw [e3]; exact h2⟩
theorem Sta.kp {h h' : Heap} {C n d : String} {v : Value} {ws : List Addr} (F : Sta Z h C n d v) (K : Keep h h' ws) (q : ∀ a ∈ ws, ∃ c : Cell, h[a]? = some c ∧ c.vm.isStatics = false) : Sta Z h' C n d v := by
  obtain ⟨cf, i, k, f, st, cell, h1, h2, h3, h4, h5, h6, h7⟩ := F
  refine ⟨cf, i, k, f, st, cell, h1, h2, h3, h4, K.2.1 st cell h5 (fun hm => ?_), h6, h7⟩
  obtain ⟨c, e1, e2⟩ := q st hm
  cases h5.symm.trans e1
  rw [h6] at e2; cases e2
theorem OW.join {P : Value → Heap → Prop} {f : Value → JFrame} {cl' sl' : Nat} (b : (∀ v h', P v h' → OW p l e R s m args below meth c n0 Q K N h' cl' sl' (f v)) → OW p l e R s m args below meth c n0 Q K N h cl sl g) (k : ∀ v h', P v h' → OW p l e R s m args below meth c n0 Q K N h' cl' sl' (f v)) : OW p l e R s m args below meth c n0 Q K N h cl sl g := b k
theorem own_nr {v : Value} {t : FieldType} (q : v.isRef = true) (ht : t.isReference = true) : narrow t v = v ∧ fits t v = true := by
  rcases ref_cases q with rfl | ⟨_, rfl⟩ <;> cases t <;> first | (cases ht; done) | exact ⟨rfl, rfl⟩
/-! what a branch over two longs asks -/
theorem tltL {x y : Int64} (q : x < y) : ifCond.holds .lt (lcmpW x y) = true ∧ ifCond.holds .ge (lcmpW x y) = false ∧ ifCond.holds .gt (lcmpW y x) = true ∧ ifCond.holds .le (lcmpW y x) = false := by
  have a := (lw_lt x y).mpr q
  have b := (lw_gt y x).mpr q
  rw [if0, if0, if0, if0]; exact ⟨(tlt a).1, (tlt a).2.1, (tlt b).2.2.1, (tlt b).2.2.2⟩
theorem fltL {x y : Int64} (q : ¬ x < y) : ifCond.holds .lt (lcmpW x y) = false ∧ ifCond.holds .ge (lcmpW x y) = true ∧ ifCond.holds .gt (lcmpW y x) = false ∧ ifCond.holds .le (lcmpW y x) = true := by
  have a := fun z => q ((lw_lt x y).mp z)
  have b := fun z => q ((lw_gt y x).mp z)
  rw [if0, if0, if0, if0]; exact ⟨(flt a).1, (flt a).2.1, (flt b).2.2.1, (flt b).2.2.2⟩
theorem teqL {x y : Int64} (q : x = y) : ifCond.holds .eq (lcmpW x y) = true ∧ ifCond.holds .ne (lcmpW x y) = false := by
  have a := (lw_eq x y).mpr q
  rw [if0, if0]; exact teq a
theorem feqL {x y : Int64} (q : ¬ x = y) : ifCond.holds .eq (lcmpW x y) = false ∧ ifCond.holds .ne (lcmpW x y) = true := by
  have a := fun z => q ((lw_eq x y).mp z)
  rw [if0, if0]; exact feq a
theorem tlt0 {x y : Int32} (q : x < y) : if_icmp.holds .lt x y = true ∧ if_icmp.holds .ge x y = false ∧ if_icmp.holds .gt y x = true ∧ if_icmp.holds .le y x = false := tlt q
end Own
end Jvm.RoadKit
namespace Jvm.RoadKit
open Sem ClassFile Op Lib Jvm.Stand Jvm.Free Jvm.LawKit
section Own
variable {p : Program} {l : Launch} {e : Env} {R : Room} {s : State} {m : MethodId} {args : Array Value} {below : List Frame} {meth : Method} {c : Code} {Z : State} {a0 : Array Value}
variable {own nm : String} {bytes : ByteArray} {ml n0 K N : Nat} {ret : Option FieldType} {Q : Option Value → Heap → Prop} {h : Heap} {cl sl : Nat} {g g' g'' : JFrame} {pc pc' : Nat} {ls ls' : Array Slot} {st : List Value}
theorem OG.dloadN (C : OC p s m meth c Z own nm bytes ml ret) {k : Fin 4} {v : UInt64} (hd : decode bytes pc = .ok (.dload_n k, 1)) (hl : ls[k.val]? = some (.val (.double v))) (hp : pc + 1 = pc') : OG p l e R s m args below meth c n0 h (mkF m pc ls st) (mkF m pc' ls (.double v :: st)) := by
  subst hp
  exact OG.of fun s' T locs cl sl X target k => XS.dloadN X.here C.1 rfl (C.d hd) hl k
theorem OG.dload (C : OC p s m meth c Z own nm bytes ml ret) {k : Nat} {v : UInt64} (hd : decode bytes pc = .ok (.dload k, 2)) (hl : ls[k]? = some (.val (.double v))) (hp : pc + 2 = pc') : OG p l e R s m args below meth c n0 h (mkF m pc ls st) (mkF m pc' ls (.double v :: st)) := by
  subst hp
  exact OG.of fun s' T locs cl sl X target k => XS.dload X.here C.1 rfl (C.d hd) hl k
theorem OG.dstoreN (C : OC p s m meth c Z own nm bytes ml ret) {k : Fin 4} {v : UInt64} (hd : decode bytes pc = .ok (.dstore_n k, 1)) (hl : storeLocals ls k.val (.double v) = some ls') (hp : pc + 1 = pc') : OG p l e R s m args below meth c n0 h (mkF m pc ls (.double v :: st)) (mkF m pc' ls' st) := by
  subst hp
  exact OG.of fun s' T locs cl sl X target k => XS.dstoreN X.here C.1 rfl (C.d hd) rfl hl k
theorem OG.dstore (C : OC p s m meth c Z own nm bytes ml ret) {k : Nat} {v : UInt64} (hd : decode bytes pc = .ok (.dstore k, 2)) (hl : storeLocals ls k (.double v) = some ls') (hp : pc + 2 = pc') : OG p l e R s m args below meth c n0 h (mkF m pc ls (.double v :: st)) (mkF m pc' ls' st) := by
  subst hp
  exact OG.of fun s' T locs cl sl X target k => XS.dstore X.here C.1 rfl (C.d hd) rfl hl k
theorem OG.dconst0 (C : OC p s m meth c Z own nm bytes ml ret) (hd : decode bytes pc = .ok (.dconst 0, 1)) (hp : pc + 1 = pc') : OG p l e R s m args below meth c n0 h (mkF m pc ls st) (mkF m pc' ls (.double 0 :: st)) := by
  subst hp
  exact OG.of fun s' T locs cl sl X target k => XS.dconst0 X.here C.1 rfl (C.d hd) (by decide) k
theorem OG.l2d (C : OC p s m meth c Z own nm bytes ml ret) {x : Int64} (hd : decode bytes pc = .ok (.l2d, 1)) (hp : pc + 1 = pc') : OG p l e R s m args below meth c n0 h (mkF m pc ls (.long x :: st)) (mkF m pc' ls (.double (FP.l2d x) :: st)) := by
  subst hp
  exact OG.of fun s' T locs cl sl X target k => XS.l2dS X.here C.1 rfl (C.d hd) rfl rfl k
theorem OG.dcmp (C : OC p s m meth c Z own nm bytes ml ret) {o : CmpOp} {x y : UInt64} (hd : decode bytes pc = .ok (.dcmp o, 1)) (hp : pc + 1 = pc') : OG p l e R s m args below meth c n0 h (mkF m pc ls (.double y :: .double x :: st)) (mkF m pc' ls (.int (cmpValue (FP.dcmp x y) o) :: st)) := by
  subst hp
  exact OG.of fun s' T locs cl sl X target k => XS.dcmpS X.here C.1 rfl (C.d hd) rfl rfl k
theorem OG.dadd (C : OC p s m meth c Z own nm bytes ml ret) {x y : UInt64} (hn : Jvm.Free.Fl.NoNaN64 (FP.dadd x y)) (hd : decode bytes pc = .ok (.dadd, 1)) (hp : pc + 1 = pc') : OG p l e R s m args below meth c n0 h (mkF m pc ls (.double y :: .double x :: st)) (mkF m pc' ls (.double (FP.dadd x y) :: st)) := by
  subst hp
  exact OG.of fun s' T locs cl sl X target k => XS.daddS X.here C.1 rfl (C.d hd) rfl hn rfl k
theorem OG.dmul (C : OC p s m meth c Z own nm bytes ml ret) {x y : UInt64} (hn : Jvm.Free.Fl.NoNaN64 (FP.dmul x y)) (hd : decode bytes pc = .ok (.dmul, 1)) (hp : pc + 1 = pc') : OG p l e R s m args below meth c n0 h (mkF m pc ls (.double y :: .double x :: st)) (mkF m pc' ls (.double (FP.dmul x y) :: st)) := by
  subst hp
  exact OG.of fun s' T locs cl sl X target k => XS.dmulS X.here C.1 rfl (C.d hd) rfl hn rfl k
theorem OG.ddiv (C : OC p s m meth c Z own nm bytes ml ret) {x y : UInt64} (hn : Jvm.Free.Fl.NoNaN64 (FP.ddiv x y)) (hd : decode bytes pc = .ok (.ddiv, 1)) (hp : pc + 1 = pc') : OG p l e R s m args below meth c n0 h (mkF m pc ls (.double y :: .double x :: st)) (mkF m pc' ls (.double (FP.ddiv x y) :: st)) := by
  subst hp
  exact OG.of fun s' T locs cl sl X target k => XS.ddivS X.here C.1 rfl (C.d hd) rfl hn rfl k
theorem OG.ldcD (C : OC p s m meth c Z own nm bytes ml ret) {i : Nat} {v : UInt64} (w : (Cond.constantDouble own i v).before a0 Z = true) (hd : decode bytes pc = .ok (.ldc2_w i, 3)) (hp : pc + 3 = pc') : OG p l e R s m args below meth c n0 h (mkF m pc ls st) (mkF m pc' ls (.double v :: st)) := by
  subst hp
  rintro T locs cl sl ⟨X, N0, e0, bc, bs⟩
  exact ⟨T, locs, ⟨X, N0, e0, bc, bs⟩, fun target k => X.ldc2DoubleC C.1 C.2.2.2.1 (mv C.2.2.1 w) (g := mkF m pc ls st) rfl (C.d hd) target k⟩
theorem OW.retD (C : OC p s m meth c Z own nm bytes ml (some .double)) {z : UInt64} (hd : decode bytes pc = .ok (.dreturn, 1)) (hK : cl ≤ K) (hN : sl ≤ N) (hQ : Q (some (.double z)) h) : OW p l e R s m args below meth c n0 Q K N h cl sl (mkF m pc ls (.double z :: st)) := fun T locs ⟨X, N0, e0, bc, bs⟩ => by
  obtain ⟨fs, hr, hrun, hended, hW, hsame⟩ := X.leave (v := some (.double z)) (fun q => by rw [C.2.2.2.2.2.1] at q; cases q) C.2.2.2.2.2.2.1
  exact ⟨_, _, retOut X C.1 C.2.2.2.2.2.1 rfl (Or.inr (Or.inr (Or.inl ⟨rfl, rfl, z, rfl⟩))) (C.d hd) hr, hrun, hended, _, locs, rfl, ⟨by show Q _ T.heap; rw [e0]; exact hQ, N0⟩, ⟨_, rfl⟩, hW, hsame.mono hK hN⟩
end Own
end Jvm.RoadKit
namespace Jvm.Pilot.@@N@@
open Jvm Jvm.ClassFile Sem Op Lib Jvm.Free Jvm.Stand Jvm.LawKit Jvm.RoadKit Bundle Jvm.Pilot.@@N@@.Jvm.D
abbrev HW (a0 : Array Value) (Z : State) : Prop := ∀ d ∈ tables_1, d.before a0 Z = true
theorem w0 {a0 : Array Value} {Z : State} (hw : HW a0 Z) : (Jvm.Cond.constant "com/example/gleaner/gleaner/text/ExtractionScoreF1PinLaw" (7 : Nat) (2147483647 : Int32)).before a0 Z = true := hw _ (List.mem_of_getElem? (i := 0) rfl)
theorem w1 {a0 : Array Value} {Z : State} (hw : HW a0 Z) : (Jvm.Cond.constantDouble "com/example/gleaner/gleaner/text/ExtractionScoreF1PinLaw" (8 : Nat) (4652218415073722368 : UInt64)).before a0 Z = true := hw _ (List.mem_of_getElem? (i := 1) rfl)
theorem w2 {a0 : Array Value} {Z : State} (hw : HW a0 Z) : (Jvm.Cond.classLink "com/example/gleaner/gleaner/text/ExtractionScoreF1PinLaw" (10 : Nat) "com/example/gleaner/gleaner/text/ExtractionScore").before a0 Z = true := hw _ (List.mem_of_getElem? (i := 2) rfl)
theorem w3 {a0 : Array Value} {Z : State} (hw : HW a0 Z) : (Jvm.Cond.instantiable "com/example/gleaner/gleaner/text/ExtractionScore" (2 : Nat)).before a0 Z = true := hw _ (List.mem_of_getElem? (i := 3) rfl)
theorem w4 {a0 : Array Value} {Z : State} (hw : HW a0 Z) : (Jvm.Cond.initialized "com/example/gleaner/gleaner/text/ExtractionScore").before a0 Z = true := hw _ (List.mem_of_getElem? (i := 4) rfl)
theorem w5 {a0 : Array Value} {Z : State} (hw : HW a0 Z) : (Jvm.Cond.methodLink "com/example/gleaner/gleaner/text/ExtractionScoreF1PinLaw" (12 : Nat) ({ cls := "com/example/gleaner/gleaner/text/ExtractionScore", name := "<init>", desc := "(DD)V" } : Jvm.MethodName)).before a0 Z = true := hw _ (List.mem_of_getElem? (i := 5) rfl)
theorem w6 {a0 : Array Value} {Z : State} (hw : HW a0 Z) : (Jvm.Cond.instanceMethod ({ cls := "com/example/gleaner/gleaner/text/ExtractionScore", name := "<init>", desc := "(DD)V" } : Jvm.MethodName)).before a0 Z = true := hw _ (List.mem_of_getElem? (i := 6) rfl)
theorem w7 {a0 : Array Value} {Z : State} (hw : HW a0 Z) : (Jvm.Cond.code ({ cls := "com/example/gleaner/gleaner/text/ExtractionScore", name := "<init>", desc := "(DD)V" } : Jvm.MethodName) prog_19_method_1_code (5 : Nat) (Option.none : Option Jvm.ClassFile.FieldType)).before a0 Z = true := hw _ (List.mem_of_getElem? (i := 7) rfl)
theorem w8 {a0 : Array Value} {Z : State} (hw : HW a0 Z) : (Jvm.Cond.methodLink "com/example/gleaner/gleaner/text/ExtractionScore" (1 : Nat) ({ cls := "java/lang/Record", name := "<init>", desc := "()V" } : Jvm.MethodName)).before a0 Z = true := hw _ (List.mem_of_getElem? (i := 8) rfl)
theorem w9 {a0 : Array Value} {Z : State} (hw : HW a0 Z) : (Jvm.Cond.instanceMethod ({ cls := "java/lang/Record", name := "<init>", desc := "()V" } : Jvm.MethodName)).before a0 Z = true := hw _ (List.mem_of_getElem? (i := 9) rfl)
theorem w11 {a0 : Array Value} {Z : State} (hw : HW a0 Z) : (Jvm.Cond.initialized "java/lang/Record").before a0 Z = true := hw _ (List.mem_of_getElem? (i := 11) rfl)
theorem w12 {a0 : Array Value} {Z : State} (hw : HW a0 Z) : (Jvm.Cond.code ({ cls := "java/lang/Record", name := "<init>", desc := "()V" } : Jvm.MethodName) jdk_30_method_1_code (1 : Nat) (Option.none : Option Jvm.ClassFile.FieldType)).before a0 Z = true := hw _ (List.mem_of_getElem? (i := 12) rfl)
theorem w13 {a0 : Array Value} {Z : State} (hw : HW a0 Z) : (Jvm.Cond.methodLink "java/lang/Record" (1 : Nat) ({ cls := "java/lang/Object", name := "<init>", desc := "()V" } : Jvm.MethodName)).before a0 Z = true := hw _ (List.mem_of_getElem? (i := 13) rfl)
theorem w14 {a0 : Array Value} {Z : State} (hw : HW a0 Z) : (Jvm.Cond.instanceMethod ({ cls := "java/lang/Object", name := "<init>", desc := "()V" } : Jvm.MethodName)).before a0 Z = true := hw _ (List.mem_of_getElem? (i := 14) rfl)
theorem w15 {a0 : Array Value} {Z : State} (hw : HW a0 Z) : (Jvm.Cond.code ({ cls := "java/lang/Object", name := "<init>", desc := "()V" } : Jvm.MethodName) object_method_1_code (1 : Nat) (Option.none : Option Jvm.ClassFile.FieldType)).before a0 Z = true := hw _ (List.mem_of_getElem? (i := 15) rfl)
theorem w16 {a0 : Array Value} {Z : State} (hw : HW a0 Z) : (Jvm.Cond.fieldLink "com/example/gleaner/gleaner/text/ExtractionScore" (7 : Nat) "com/example/gleaner/gleaner/text/ExtractionScore" "precision" "D").before a0 Z = true := hw _ (List.mem_of_getElem? (i := 16) rfl)
theorem w17 {a0 : Array Value} {Z : State} (hw : HW a0 Z) : (Jvm.Cond.laysFinal "com/example/gleaner/gleaner/text/ExtractionScore" "com/example/gleaner/gleaner/text/ExtractionScore" "precision" "D").before a0 Z = true := hw _ (List.mem_of_getElem? (i := 17) rfl)
theorem w18 {a0 : Array Value} {Z : State} (hw : HW a0 Z) : (Jvm.Cond.fieldLink "com/example/gleaner/gleaner/text/ExtractionScore" (13 : Nat) "com/example/gleaner/gleaner/text/ExtractionScore" "recall" "D").before a0 Z = true := hw _ (List.mem_of_getElem? (i := 18) rfl)
theorem w19 {a0 : Array Value} {Z : State} (hw : HW a0 Z) : (Jvm.Cond.laysFinal "com/example/gleaner/gleaner/text/ExtractionScore" "com/example/gleaner/gleaner/text/ExtractionScore" "recall" "D").before a0 Z = true := hw _ (List.mem_of_getElem? (i := 19) rfl)
theorem w20 {a0 : Array Value} {Z : State} (hw : HW a0 Z) : (Jvm.Cond.methodLink "com/example/gleaner/gleaner/text/ExtractionScoreF1PinLaw" (15 : Nat) ({ cls := "com/example/gleaner/gleaner/text/ExtractionScore", name := "f1", desc := "()D" } : Jvm.MethodName)).before a0 Z = true := hw _ (List.mem_of_getElem? (i := 20) rfl)
theorem w21 {a0 : Array Value} {Z : State} (hw : HW a0 Z) : (Jvm.Cond.declares ({ cls := "com/example/gleaner/gleaner/text/ExtractionScore", name := "f1", desc := "()D" } : Jvm.MethodName)).before a0 Z = true := hw _ (List.mem_of_getElem? (i := 21) rfl)
theorem w22 {a0 : Array Value} {Z : State} (hw : HW a0 Z) : (Jvm.Cond.instanceMethod ({ cls := "com/example/gleaner/gleaner/text/ExtractionScore", name := "f1", desc := "()D" } : Jvm.MethodName)).before a0 Z = true := hw _ (List.mem_of_getElem? (i := 22) rfl)
theorem w23 {a0 : Array Value} {Z : State} (hw : HW a0 Z) : (Jvm.Cond.selects "com/example/gleaner/gleaner/text/ExtractionScore" ({ cls := "com/example/gleaner/gleaner/text/ExtractionScore", name := "f1", desc := "()D" } : Jvm.MethodName) ({ cls := "com/example/gleaner/gleaner/text/ExtractionScore", name := "f1", desc := "()D" } : Jvm.MethodName)).before a0 Z = true := hw _ (List.mem_of_getElem? (i := 23) rfl)
theorem w24 {a0 : Array Value} {Z : State} (hw : HW a0 Z) : (Jvm.Cond.code ({ cls := "com/example/gleaner/gleaner/text/ExtractionScore", name := "f1", desc := "()D" } : Jvm.MethodName) prog_19_method_2_code (3 : Nat) (Option.some Jvm.ClassFile.FieldType.double)).before a0 Z = true := hw _ (List.mem_of_getElem? (i := 24) rfl)
theorem w25 {a0 : Array Value} {Z : State} (hw : HW a0 Z) : (Jvm.Cond.constantDouble "com/example/gleaner/gleaner/text/ExtractionScore" (16 : Nat) (4611686018427387904 : UInt64)).before a0 Z = true := hw _ (List.mem_of_getElem? (i := 25) rfl)
theorem w26 {a0 : Array Value} {Z : State} (hw : HW a0 Z) : (Jvm.Cond.constantLong "com/example/gleaner/gleaner/text/ExtractionScoreF1PinLaw" (19 : Nat) (2 : Int64)).before a0 Z = true := hw _ (List.mem_of_getElem? (i := 26) rfl)
theorem w27 {a0 : Array Value} {Z : State} (hw : HW a0 Z) : (Jvm.Cond.methodLink "com/example/gleaner/gleaner/text/ExtractionScoreF1PinLaw" (21 : Nat) ({ cls := "java/lang/Math", name := "min", desc := "(JJ)J" } : Jvm.MethodName)).before a0 Z = true := hw _ (List.mem_of_getElem? (i := 27) rfl)
theorem w28 {a0 : Array Value} {Z : State} (hw : HW a0 Z) : (Jvm.Cond.static ({ cls := "java/lang/Math", name := "min", desc := "(JJ)J" } : Jvm.MethodName)).before a0 Z = true := hw _ (List.mem_of_getElem? (i := 28) rfl)
theorem w29 {a0 : Array Value} {Z : State} (hw : HW a0 Z) : (Jvm.Cond.initialized "java/lang/Math").before a0 Z = true := hw _ (List.mem_of_getElem? (i := 29) rfl)
theorem w30 {a0 : Array Value} {Z : State} (hw : HW a0 Z) : (Jvm.Cond.code ({ cls := "java/lang/Math", name := "min", desc := "(JJ)J" } : Jvm.MethodName) jdk_29_method_70_code (4 : Nat) (Option.some Jvm.ClassFile.FieldType.long)).before a0 Z = true := hw _ (List.mem_of_getElem? (i := 30) rfl)
theorem w31 {a0 : Array Value} {Z : State} (hw : HW a0 Z) : (Jvm.Cond.methodLink "com/example/gleaner/gleaner/text/ExtractionScoreF1PinLaw" (27 : Nat) ({ cls := "java/lang/Math", name := "max", desc := "(JJ)J" } : Jvm.MethodName)).before a0 Z = true := hw _ (List.mem_of_getElem? (i := 31) rfl)
theorem w32 {a0 : Array Value} {Z : State} (hw : HW a0 Z) : (Jvm.Cond.static ({ cls := "java/lang/Math", name := "max", desc := "(JJ)J" } : Jvm.MethodName)).before a0 Z = true := hw _ (List.mem_of_getElem? (i := 32) rfl)
theorem w33 {a0 : Array Value} {Z : State} (hw : HW a0 Z) : (Jvm.Cond.code ({ cls := "java/lang/Math", name := "max", desc := "(JJ)J" } : Jvm.MethodName) jdk_29_method_66_code (4 : Nat) (Option.some Jvm.ClassFile.FieldType.long)).before a0 Z = true := hw _ (List.mem_of_getElem? (i := 33) rfl)
theorem pd_0 : parseMethodDescriptor "()V" = some ⟨[], none⟩ := by decide +kernel
theorem pd_1 : parseMethodDescriptor "(DD)V" = some ⟨[.double, .double], none⟩ := by decide +kernel
theorem pd_2 : parseMethodDescriptor "()D" = some ⟨[], some .double⟩ := by decide +kernel
theorem pd_3 : parseMethodDescriptor "(JJ)J" = some ⟨[.long, .long], some .long⟩ := by decide +kernel
theorem pn_0 : plainName "java/lang/Record" = true := by first | (simp [plainName, overriddenIn]; done) | decide +kernel
theorem pn_1 : plainName "com/example/gleaner/gleaner/text/ExtractionScore" = true := by first | (simp [plainName, overriddenIn]; done) | decide +kernel
theorem pn_2 : plainName "com/example/gleaner/gleaner/text/ExtractionScoreF1PinLaw" = true := by first | (simp [plainName, overriddenIn]; done) | decide +kernel
def MX : Nat := 9223372036854775807
theorem n_add {x y : Int64} {X Y : Nat} (hx : x.toInt = X) (hy : y.toInt = Y) (hb : X + Y ≤ MX) : (x + y).toInt = ((X + Y : Nat) : Int) := by
  have h1 := c_ladd x y
  have h2 := rng64 (x + y)
  unfold MX at hb
  omega
theorem n_sub {x y : Int64} {X Y : Nat} (hx : x.toInt = X) (hy : y.toInt = Y) (hb : Y ≤ X) (hm : X ≤ MX) : (x - y).toInt = ((X - Y : Nat) : Int) := by
  have h1 := c_lsub x y
  have h2 := rng64 (x - y)
  unfold MX at hm
  omega
theorem n_mul {x y : Int64} {X Y : Nat} (hx : x.toInt = X) (hy : y.toInt = Y) (hb : X * Y ≤ MX) : (x * y).toInt = ((X * Y : Nat) : Int) := by
  have h1 := c_lmul x y
  have h2 := rng64 (x * y)
  rw [hx, hy] at h1
  have h3 : (X : Int) * (Y : Int) = ((X * Y : Nat) : Int) := (Int.natCast_mul X Y).symm
  rw [h3] at h1
  unfold MX at hb
  generalize X * Y = P at *
  omega
theorem n_rem {x y : Int64} {X Y : Nat} (hx : x.toInt = X) (hy : y.toInt = Y) : (x % y).toInt = ((X % Y : Nat) : Int) := by
  rw [Int64.toInt_mod, hx, hy, Int.tmod_eq_emod_of_nonneg (by omega)]; exact (Int.natCast_emod X Y).symm
theorem n_div {x y : Int64} {X Y : Nat} (hx : x.toInt = X) (hy : y.toInt = Y) : (x / y).toInt = ((X / Y : Nat) : Int) := by
  have hne : y ≠ -1 := fun q => by
    subst q
    have e : (-1 : Int64).toInt = -1 := by decide
    rw [e] at hy; omega
  rw [(c_ldiv x y Y hy hne).1 (by omega), hx]
  exact (Int.natCast_ediv X Y).symm
theorem lt_n {x y : Int64} {X Y : Nat} (hx : x.toInt = X) (hy : y.toInt = Y) : (x < y) ↔ X < Y := by
  rw [Int64.lt_iff_toInt_lt, hx, hy]; omega
theorem eq_n {x y : Int64} {X Y : Nat} (hx : x.toInt = X) (hy : y.toInt = Y) : (x = y) ↔ X = Y := by
  rw [← Int64.toInt_inj, hx, hy]; omega
open Jvm.FP.Core in
/-- the value n * 2^k -/
def DAT (n : Nat) (k : Int) : Datum := .fin false (n * 2 ^ (52 - n.log2)) (k - ((52 - n.log2 : Nat) : Int))
section
open Jvm.FP.Core
theorem dat_fits {n : Nat} {k : Int} (h0 : 0 < n) (h1 : n < 2 ^ 53) (k1 : -500 ≤ k) (k2 : k ≤ 500) : Jvm.FP.Core.fits b64 (DAT n k) := by
  have l1 : n.log2 < 53 := (Nat.log2_lt (by omega)).mpr h1
  have l2 : 2 ^ n.log2 ≤ n := Nat.log2_self_le (by omega)
  have l3 : n < 2 ^ (n.log2 + 1) := Nat.lt_log2_self
  have e1 : b64.qmin = -1074 := by decide
  have e2 : b64.qmax = 971 := by decide
  have p1 : (2 : Nat) ^ 52 = 2 ^ n.log2 * 2 ^ (52 - n.log2) := by rw [← Nat.pow_add]; congr 1; omega
  have p2 : (2 : Nat) ^ 53 = 2 ^ (n.log2 + 1) * 2 ^ (52 - n.log2) := by rw [← Nat.pow_add]; congr 1; omega
  refine ⟨?_, ?_, ?_, Or.inr ?_⟩
  · show n * 2 ^ (52 - n.log2) < 2 ^ 53
    rw [p2]; exact Nat.mul_lt_mul_of_pos_right l3 (Nat.two_pow_pos _)
  · rw [e1]; omega
  · rw [e2]; omega
  · show 2 ^ 52 ≤ n * 2 ^ (52 - n.log2)
    rw [p1]; exact Nat.mul_le_mul_right _ l2
theorem rr_exact {A B n : Nat} {e k : Int} (hB : 0 < B) (h0 : 0 < n) (h1 : n < 2 ^ 53) (k1 : -500 ≤ k) (k2 : k ≤ 500) (h : A * 2 ^ (e - k).toNat = n * B * 2 ^ (k - e).toNat) : roundRatio b64 false A B e = DAT n k := by
  rw [roundRatio_congr (A' := n) (B' := 1) (e' := k) hB (by decide) (by rw [Nat.mul_one]; exact h)]
  refine roundRatio_exact good_b64 (by decide) (dat_fits h0 h1 k1 k2) ?_
  rw [show (k - (k - ((52 - n.log2 : Nat) : Int))).toNat = 52 - n.log2 by omega, show ((k - ((52 - n.log2 : Nat) : Int)) - k).toNat = 0 by omega]
  simp
theorem v_l2d {a : Int64} {n : Nat} (ha : a.toInt = n) (h0 : 0 < n) (h1 : n < 2 ^ 53) : val64 (l2d a) = DAT n 0 := by
  rw [val64_l2d, ha]
  show roundRatio b64 (decide ((n : Int) < 0)) (n : Int).natAbs 1 0 = _
  rw [show decide ((n : Int) < 0) = false by simp, Int.natAbs_natCast]
  exact rr_exact (by decide) h0 h1 (by decide) (by decide) (by simp)
theorem v_mul {x y : UInt64} {a b : Nat} {k m : Int} (hx : val64 x = DAT a k) (hy : val64 y = DAT b m) (a0 : 0 < a) (b0 : 0 < b) (h1 : a * b < 2 ^ 53) (k1 : -500 ≤ k + m) (k2 : k + m ≤ 500) : val64 (dmul x y) = DAT (a * b) (k + m) := by
  rw [val64_dmul, hx, hy]
  show roundRatio b64 (false != false) (a * 2 ^ (52 - a.log2) * (b * 2 ^ (52 - b.log2))) 1 ((k - ((52 - a.log2 : Nat) : Int)) + (m - ((52 - b.log2 : Nat) : Int))) = _
  generalize 52 - a.log2 = i
  generalize 52 - b.log2 = j
  refine rr_exact (by decide) (Nat.mul_pos a0 b0) h1 k1 k2 ?_
  rw [show ((k - (i : Int)) + (m - (j : Int)) - (k + m)).toNat = 0 by omega, show ((k + m) - ((k - (i : Int)) + (m - (j : Int)))).toNat = i + j by omega, Nat.pow_add, Nat.pow_zero]
  simp only [Nat.mul_one]
  ac_rfl
theorem v_div {x y : UInt64} {a b : Nat} {k m : Int} (hx : val64 x = DAT a k) (hy : val64 y = DAT b m) (b0 : 0 < b) : val64 (ddiv x y) = roundRatio b64 false a b (k - m) := by
  rw [val64_ddiv, hx, hy]
  have hb : b * 2 ^ (52 - b.log2) ≠ 0 := Nat.ne_of_gt (Nat.mul_pos b0 (Nat.two_pow_pos _))
  have e : quotient b64 (DAT a k) (DAT b m) = roundRatio b64 false (a * 2 ^ (52 - a.log2)) (b * 2 ^ (52 - b.log2)) ((k - ((52 - a.log2 : Nat) : Int)) - (m - ((52 - b.log2 : Nat) : Int))) := by
    show (if b * 2 ^ (52 - b.log2) = 0 then _ else _) = _
    rw [if_neg hb]; rfl
  rw [e]
  generalize 52 - a.log2 = i
  generalize 52 - b.log2 = j
  refine roundRatio_congr (Nat.mul_pos b0 (Nat.two_pow_pos _)) b0 ?_
  have q : 2 ^ i * 2 ^ (((k - (i : Int)) - (m - (j : Int))) - (k - m)).toNat = 2 ^ j * 2 ^ ((k - m) - ((k - (i : Int)) - (m - (j : Int)))).toNat := by
    rw [← Nat.pow_add, ← Nat.pow_add]; congr 1; omega
  calc a * 2 ^ i * b * 2 ^ (((k - (i : Int)) - (m - (j : Int))) - (k - m)).toNat = a * b * (2 ^ i * 2 ^ (((k - (i : Int)) - (m - (j : Int))) - (k - m)).toNat) := by ac_rfl
    _ = a * b * (2 ^ j * 2 ^ ((k - m) - ((k - (i : Int)) - (m - (j : Int)))).toNat) := by rw [q]
    _ = _ := by ac_rfl
theorem v_divE {x y : UInt64} {a : Nat} {k m : Int} (hx : val64 x = DAT a k) (hy : val64 y = DAT 1 m) (a0 : 0 < a) (h1 : a < 2 ^ 53) (k1 : -500 ≤ k - m) (k2 : k - m ≤ 500) : val64 (ddiv x y) = DAT a (k - m) := by
  rw [v_div hx hy (by decide)]
  exact rr_exact (by decide) a0 h1 k1 k2 (by simp)
theorem v_add {x y : UInt64} {a b : Nat} {k : Int} (hx : val64 x = DAT a k) (hy : val64 y = DAT b k) (a0 : 0 < a) (b0 : 0 < b) (ha : a < 2 ^ 53) (hb : b < 2 ^ 53) (h1 : a + b < 2 ^ 53) (k1 : -500 ≤ k) (k2 : k ≤ 500) : val64 (dadd x y) = DAT (a + b) k := by
  rw [val64_dadd, hx, hy]
  have la : a.log2 < 53 := (Nat.log2_lt (by omega)).mpr ha
  have lb : b.log2 < 53 := (Nat.log2_lt (by omega)).mpr hb
  unfold DAT exactSum round
  simp only []
  generalize hi : 52 - a.log2 = i
  generalize hj : 52 - b.log2 = j
  obtain ⟨e0, he0⟩ : ∃ e0 : Nat, min (k - (i : Int)) (k - (j : Int)) = k - (e0 : Int) := ⟨max i j, by omega⟩
  have hei : i ≤ e0 := by omega
  have hej : j ≤ e0 := by omega
  rw [he0]
  have su : sumUnits false (a * 2 ^ i) (k - (i : Int)) false (b * 2 ^ j) (k - (j : Int)) (k - (e0 : Int)) = (((a + b) * 2 ^ e0 : Nat) : Int) := by
    unfold sumUnits signed inUnits
    rw [show ((k - (i : Int)) - (k - (e0 : Int))).toNat = e0 - i by omega, show ((k - (j : Int)) - (k - (e0 : Int))).toNat = e0 - j by omega]
    simp only [Bool.false_eq_true, if_false]
    rw [Nat.mul_assoc, Nat.mul_assoc, ← Nat.pow_add, ← Nat.pow_add, show i + (e0 - i) = e0 by omega, show j + (e0 - j) = e0 by omega, Nat.add_mul]
    simp
  rw [su]
  have hs : sumSign false false (((a + b) * 2 ^ e0 : Nat) : Int) = false := by
    unfold sumSign
    split
    · rfl
    · exact decide_eq_false (by omega)
  rw [hs, Int.natAbs_natCast]
  have := rr_exact (A := (a + b) * 2 ^ e0) (B := 1) (n := a + b) (e := k - (e0 : Int)) (k := k) (by decide) (by omega) h1 k1 k2 (by
    rw [show (k - (e0 : Int) - k).toNat = 0 by omega, show (k - (k - (e0 : Int))).toNat = e0 by omega]; simp)
  rw [this]; rfl
theorem v_2 : val64 4611686018427387904 = DAT 1 1 := by decide +kernel
theorem v_1024 : val64 4652218415073722368 = DAT 1 10 := by decide +kernel
/-- a quotient that need not be exact: its significand does not hang on the scale -/
theorem quo_form {A B : Nat} (hA : 0 < A) (hB : 0 < B) (hA1 : A < 2 ^ 30) (hB1 : B < 2 ^ 30) : ∃ (c : Nat) (q : Int), 2 ^ 52 ≤ c ∧ c < 2 ^ 53 ∧ -200 ≤ q ∧ q ≤ 200 ∧ ∀ e : Int, -50 ≤ e → e ≤ 50 → roundRatio b64 false A B e = .fin false c (q + e) := by
  have la : A.log2 < 30 := (Nat.log2_lt (by omega)).mpr hA1
  have lb : B.log2 < 30 := (Nat.log2_lt (by omega)).mpr hB1
  have hL : -40 ≤ leading A B ∧ leading A B ≤ 40 := by
    unfold leading
    dsimp only
    split <;> omega
  have e1 : b64.qmin = -1074 := by decide
  have e2 : b64.qmax = 971 := by decide
  have ep : (b64.p : Int) = 53 := by decide
  have hq : ∀ e : Int, -50 ≤ e → e ≤ 50 → quantum b64 A B e = leading A B + e - 52 := fun e h1 h2 => by
    unfold quantum; rw [e1, ep]; omega
  have hform : ∀ e : Int, -50 ≤ e → e ≤ 50 → roundRatio b64 false A B e = settle b64 false (nearest (A * 2 ^ (52 - leading A B).toNat) (B * 2 ^ (leading A B - 52).toNat)) (leading A B + e - 52) := fun e h1 h2 => by
    unfold roundRatio
    rw [if_neg (by omega), hq e h1 h2]
    unfold roundAt unitsNum unitsDen
    rw [show (e - (leading A B + e - 52)).toNat = (52 - leading A B).toNat by omega, show (leading A B + e - 52 - e).toNat = (leading A B - 52).toNat by omega]
  generalize nearest (A * 2 ^ (52 - leading A B).toNat) (B * 2 ^ (leading A B - 52).toNat) = M at hform
  have hfit0 := roundRatio_fits good_b64 false A hB 0
  by_cases hM : M < 2 ^ 53
  · have hs : ∀ e : Int, -50 ≤ e → e ≤ 50 → roundRatio b64 false A B e = .fin false M (leading A B - 52 + e) := fun e h1 h2 => by
      rw [hform e h1 h2]
      unfold settle bound
      rw [if_pos (show M < 2 ^ b64.p from hM), if_pos (by rw [e2]; omega)]
      congr 1; omega
    rw [hs 0 (by decide) (by decide)] at hfit0
    obtain ⟨-, -, -, h4⟩ := hfit0
    refine ⟨M, leading A B - 52, ?_, hM, by omega, by omega, hs⟩
    rcases h4 with h4 | h4
    · rw [e1] at h4; omega
    · exact h4
  · refine ⟨2 ^ 52, leading A B - 51, Nat.le_refl _, by decide, by omega, by omega, fun e h1 h2 => ?_⟩
    rw [hform e h1 h2]
    unfold settle bound
    rw [if_neg (show ¬ M < 2 ^ b64.p from hM), if_pos (by rw [e2]; omega)]
    congr 1
    omega
theorem qm : b64.qmin = -1074 := by decide
theorem zm_dat {n j : Nat} (h0 : 0 < n) (h1 : n < 2 ^ 53) (hj : j ≤ 100) : zmag b64 (DAT n (-(j : Int))) = n * 2 ^ (1074 - j) := by
  have l1 : n.log2 < 53 := (Nat.log2_lt (by omega)).mpr h1
  show inUnits (n * 2 ^ (52 - n.log2)) (-(j : Int) - ((52 - n.log2 : Nat) : Int)) b64.qmin = _
  unfold inUnits
  rw [qm, show (-(j : Int) - ((52 - n.log2 : Nat) : Int) - (-1074)).toNat = 1074 - j - (52 - n.log2) by omega, Nat.mul_assoc, ← Nat.pow_add]
  congr 2
  omega
theorem rr_ge {A B n j : Nat} (hB : 0 < B) (h0 : 0 < n) (h1 : n < 2 ^ 53) (hj : j ≤ 100) (h : n * B ≤ A * 2 ^ j) : n * 2 ^ (1074 - j) ≤ zmag b64 (roundRatio b64 false A B 0) := by
  have := zmag_roundRatio_ge good_b64 (s := false) (A := A) (B := B) (e := 0) (e0 := b64.qmin) (V := DAT n (-(j : Int))) hB (dat_fits h0 h1 (by omega) (by omega)) (Int.le_refl _) (by decide) (by
    rw [zm_dat h0 h1 hj, Int.sub_self]
    show n * 2 ^ (1074 - j) * 1 * B ≤ A * 2 ^ (0 - b64.qmin).toNat
    rw [qm, show ((0 : Int) - (-1074)).toNat = j + (1074 - j) by omega, Nat.pow_add, Nat.mul_one]
    calc n * 2 ^ (1074 - j) * B = n * B * 2 ^ (1074 - j) := by ac_rfl
      _ ≤ A * 2 ^ j * 2 ^ (1074 - j) := Nat.mul_le_mul_right _ h
      _ = _ := by ac_rfl)
  rwa [zm_dat h0 h1 hj] at this
theorem rr_le {A B n j : Nat} (hB : 0 < B) (h0 : 0 < n) (h1 : n < 2 ^ 53) (hj : j ≤ 100) (h : A * 2 ^ j ≤ n * B) : zmag b64 (roundRatio b64 false A B 0) ≤ n * 2 ^ (1074 - j) := by
  have := zmag_roundRatio_le good_b64 (s := false) (A := A) (B := B) (e := 0) (e0 := b64.qmin) (V := DAT n (-(j : Int))) hB (dat_fits h0 h1 (by omega) (by omega)) (by intro q; cases q) (Int.le_refl _) (by decide) (by
    rw [zm_dat h0 h1 hj, Int.sub_self]
    show A * 2 ^ (0 - b64.qmin).toNat ≤ n * 2 ^ (1074 - j) * 1 * B
    rw [qm, show ((0 : Int) - (-1074)).toNat = j + (1074 - j) by omega, Nat.pow_add, Nat.mul_one]
    calc A * (2 ^ j * 2 ^ (1074 - j)) = A * 2 ^ j * 2 ^ (1074 - j) := by ac_rfl
      _ ≤ n * B * 2 ^ (1074 - j) := Nat.mul_le_mul_right _ h
      _ = _ := by ac_rfl)
  rwa [zm_dat h0 h1 hj] at this
/-- a number of sign +, worth z of the least numbers -/
def POS (x : UInt64) (z : Nat) : Prop := val64 x ≠ .nan ∧ sgn (val64 x) = false ∧ zmag b64 (val64 x) = z
theorem POS.zv {x : UInt64} {z : Nat} (h : POS x z) : zval b64 (val64 x) = (z : Int) := by
  unfold zval; rw [h.2.1, h.2.2]; rfl
theorem POS.lt {x y : UInt64} {a b : Nat} (hx : POS x a) (hy : POS y b) (h : a < b) : dcmp x y = some .lt := dcmp_lt.mpr ⟨hx.1, hy.1, by rw [hx.zv, hy.zv]; omega⟩
theorem POS.eq {x y : UInt64} {a b : Nat} (hx : POS x a) (hy : POS y b) (h : a = b) : dcmp x y = some .eq := dcmp_eq.mpr ⟨hx.1, hy.1, by rw [hx.zv, hy.zv]; omega⟩
theorem POS.le {x y : UInt64} {a b : Nat} (hx : POS x a) (hy : POS y b) (h : a ≤ b) : dcmp x y = some .lt ∨ dcmp x y = some .eq := dcmp_le.mpr ⟨hx.1, hy.1, by rw [hx.zv, hy.zv]; omega⟩
theorem pos_dat {x : UInt64} {n : Nat} (h : val64 x = DAT n 0) (h0 : 0 < n) (h1 : n < 2 ^ 53) : POS x (n * 2 ^ 1074) := by
  refine ⟨(by rw [h]; intro q; cases q), (by rw [h]; rfl), ?_⟩
  have := zm_dat (j := 0) h0 h1 (by decide)
  rw [h]; exact this
theorem pos_zero : POS 0 0 := ⟨by decide +kernel, by decide +kernel, by decide +kernel⟩
theorem pos_rr {x : UInt64} {A B : Nat} (h : val64 x = roundRatio b64 false A B 0) : POS x (zmag b64 (roundRatio b64 false A B 0)) := by
  exact ⟨(by rw [h]; exact roundRatio_ne_nan _ _ _ _ _), (by rw [h, sgn_roundRatio]), (by rw [h])⟩
theorem nn_of {x : UInt64} (h : val64 x ≠ .nan) : Jvm.Free.Fl.NoNaN64 x := Jvm.Free.Fl.noNaN64_no.mpr (decide_eq_false h)
theorem nn_dat {x : UInt64} {n : Nat} {k : Int} (h : val64 x = DAT n k) : Jvm.Free.Fl.NoNaN64 x := nn_of (by rw [h]; intro q; cases q)
theorem nn_fin {x : UInt64} {c : Nat} {q : Int} (h : val64 x = .fin false c q) : Jvm.Free.Fl.NoNaN64 x := nn_of (by rw [h]; intro q; cases q)
abbrev K2 : UInt64 := 4611686018427387904
abbrev K10 : UInt64 := 4652218415073722368
theorem fits_cq {c : Nat} {q : Int} (h1 : 2 ^ 52 ≤ c) (h2 : c < 2 ^ 53) (q1 : -300 ≤ q) (q2 : q ≤ 300) : Jvm.FP.Core.fits b64 (.fin false c q) := by
  have e2 : b64.qmax = 971 := by decide
  exact ⟨h2, by rw [qm]; omega, by rw [e2]; omega, Or.inr h1⟩
theorem v_up {x : UInt64} {c : Nat} {q : Int} (hx : val64 x = .fin false c q) (h1 : 2 ^ 52 ≤ c) (h2 : c < 2 ^ 53) (q1 : -250 ≤ q) (q2 : q ≤ 250) : val64 (dmul x K10) = .fin false c (q + 10) := by
  rw [val64_dmul, hx, v_1024]
  show roundRatio b64 (false != false) (c * (1 * 2 ^ (52 - Nat.log2 1))) 1 (q + ((10 : Int) - ((52 - Nat.log2 1 : Nat) : Int))) = _
  have l : Nat.log2 1 = 0 := by decide
  rw [l]
  refine roundRatio_exact good_b64 (by decide) (fits_cq h1 h2 (by omega) (by omega)) ?_
  rw [show (q + ((10 : Int) - ((52 - 0 : Nat) : Int)) - (q + 10)).toNat = 0 by omega, show (q + 10 - (q + ((10 : Int) - ((52 - 0 : Nat) : Int)))).toNat = 52 by omega]
  rw [Nat.pow_zero, Nat.mul_one, Nat.mul_one, Nat.one_mul]
theorem quot_gen {c d : Nat} {q r : Int} (hd : d ≠ 0) : quotient b64 (.fin false c q) (.fin false d r) = roundRatio b64 false c d (q - r) := by
  show (if d = 0 then (if c = 0 then Datum.nan else .inf (false != false)) else roundRatio b64 (false != false) c d (q - r)) = _
  rw [if_neg hd]; rfl
theorem v_dn {x : UInt64} {c : Nat} {q : Int} (hx : val64 x = .fin false c q) (h1 : 2 ^ 52 ≤ c) (h2 : c < 2 ^ 53) (q1 : -250 ≤ q) (q2 : q ≤ 250) : val64 (ddiv x K10) = .fin false c (q - 10) := by
  rw [val64_ddiv, hx, v_1024]
  have l : Nat.log2 1 = 0 := by decide
  have e : quotient b64 (.fin false c q) (DAT 1 10) = roundRatio b64 false c (1 * 2 ^ (52 - 0)) (q - ((10 : Int) - ((52 - 0 : Nat) : Int))) := by
    unfold DAT
    rw [l]
    exact quot_gen (by decide)
  rw [e]
  refine roundRatio_exact good_b64 (by decide) (fits_cq h1 h2 (by omega) (by omega)) ?_
  rw [show (q - ((10 : Int) - ((52 - 0 : Nat) : Int)) - (q - 10)).toNat = 52 by omega, show (q - 10 - (q - ((10 : Int) - ((52 - 0 : Nat) : Int)))).toNat = 0 by omega]
  rw [Nat.pow_zero, Nat.mul_one, Nat.one_mul]
theorem pos_case {a b : Int64} {A B : Nat} (ha : a.toInt = A) (hb : b.toInt = B) (hN : ((2 : Int64) * a * b).toInt = ((2 * A * B : Nat) : Int)) (hS : (a + b).toInt = ((A + B : Nat) : Int)) (A1 : 1 ≤ A) (A2 : A ≤ 1024) (B1 : 1 ≤ B) (B2 : B ≤ 1024) {p r s m1 m2 f g h1 hh : UInt64}
    (gp : ddiv (l2d a) K10 = p) (gr : ddiv (l2d b) K10 = r) (gs : dadd p r = s) (gm1 : dmul K2 p = m1) (gm2 : dmul m1 r = m2) (gf : ddiv m2 s = f) (gg : dmul f K10 = g) (gh1 : ddiv (l2d ((2 : Int64) * a * b)) (l2d (a + b)) = h1) (ghh : ddiv h1 K10 = hh) :
    val64 p = DAT A (-10) ∧ val64 r = DAT B (-10) ∧ val64 s = DAT (A + B) (-10) ∧ val64 m1 = DAT A (-9) ∧ val64 m2 = DAT (A * B) (-19) ∧ (∃ c q, val64 f = .fin false c q) ∧ (∃ c q, val64 g = .fin false c q) ∧ (∃ c q, val64 h1 = .fin false c q) ∧ f = hh ∧ val64 g = roundRatio b64 false (2 * A * B) (A + B) 0 := by
  have hAB : A * B ≤ 1024 * 1024 := Nat.mul_le_mul A2 B2
  have hAB1 : 1 ≤ A * B := Nat.mul_pos A1 B1
  have h2AB : 2 * A * B = 2 * (A * B) := Nat.mul_assoc _ _ _
  have vp : val64 p = DAT A (-10) := by have h := v_divE (v_l2d ha A1 (by omega)) v_1024 A1 (by omega) (by decide) (by decide); rw [show ((0 : Int) - 10) = -10 by decide] at h; rw [← gp]; exact h
  have vr : val64 r = DAT B (-10) := by have h := v_divE (v_l2d hb B1 (by omega)) v_1024 B1 (by omega) (by decide) (by decide); rw [show ((0 : Int) - 10) = -10 by decide] at h; rw [← gr]; exact h
  have vs : val64 s = DAT (A + B) (-10) := by rw [← gs]; exact v_add vp vr A1 B1 (by omega) (by omega) (by omega) (by decide) (by decide)
  have vm1 : val64 m1 = DAT A (-9) := by
    have h := v_mul v_2 vp (by decide) A1 (by omega) (by decide) (by decide)
    rw [Nat.one_mul, show ((1 : Int) + -10) = -9 by decide] at h
    rw [← gm1]; exact h
  have vm2 : val64 m2 = DAT (A * B) (-19) := by
    have h := v_mul vm1 vr A1 B1 (by omega) (by decide) (by decide)
    rw [show ((-9 : Int) + -10) = -19 by decide] at h
    rw [← gm2]; exact h
  have vf : val64 f = roundRatio b64 false (A * B) (A + B) (-9) := by
    have h := v_div vm2 vs (by omega)
    rw [show ((-19 : Int) - -10) = -9 by decide] at h
    rw [← gf]; exact h
  have vh1 : val64 h1 = roundRatio b64 false (2 * A * B) (A + B) 0 := by
    have h := v_div (v_l2d hN (by omega) (by omega)) (v_l2d hS (by omega) (by omega)) (by omega)
    rw [show ((0 : Int) - 0) = 0 by decide] at h
    rw [← gh1]; exact h
  have hc : roundRatio b64 false (2 * A * B) (A + B) 0 = roundRatio b64 false (A * B) (A + B) 1 := by
    refine roundRatio_congr (by omega) (by omega) ?_
    rw [show ((0 : Int) - 1).toNat = 0 by decide, show ((1 : Int) - 0).toNat = 1 by decide, h2AB]
    simp only [Nat.pow_zero, Nat.mul_one, Nat.pow_one]
    ac_rfl
  obtain ⟨c, q, c1, c2, q1, q2, hform⟩ := quo_form (A := A * B) (B := A + B) hAB1 (by omega) (by omega) (by omega)
  have f1 := vf.trans (hform (-9) (by decide) (by decide))
  have h11 := (vh1.trans hc).trans (hform 1 (by decide) (by decide))
  have vg : val64 g = .fin false c (q + (-9) + 10) := by rw [← gg]; exact v_up f1 c1 c2 (by omega) (by omega)
  have vhh : val64 hh = .fin false c (q + 1 - 10) := by rw [← ghh]; exact v_dn h11 c1 c2 (by omega) (by omega)
  have efh : f = hh := val64_inj (by rw [f1]; intro q; cases q) (by rw [f1, vhh]; congr 1; omega)
  refine ⟨vp, vr, vs, vm1, vm2, ⟨_, _, f1⟩, ⟨_, _, vg⟩, ⟨_, _, h11⟩, efh, ?_⟩
  rw [vg, hc, hform 1 (by decide) (by decide)]
  congr 1; omega
theorem own_w2 : 2 ^ 1074 = 2048 * 2 ^ 1063 := by rw [show (2048 : Nat) = 2 ^ 11 from rfl, ← Nat.pow_add]
/-- where the rounded quotient lies -/
theorem rr_eq {N S q : Nat} (hS : 0 < S) (q0 : 0 < q) (q1 : q < 2 ^ 53) (h : N = q * S) : zmag b64 (roundRatio b64 false N S 0) = q * 2 ^ 1074 := by
  have a1 := rr_le (A := N) (j := 0) hS q0 q1 (by decide) (by rw [h]; simp)
  have a2 := rr_ge (A := N) (j := 0) hS q0 q1 (by decide) (by rw [h]; simp)
  exact Nat.le_antisymm a1 a2
theorem rr_gt {N S q : Nat} (hS : 0 < S) (hS2 : S ≤ 2048) (q1 : q < 2 ^ 40) (h : q * S < N) : q * 2 ^ 1074 < zmag b64 (roundRatio b64 false N S 0) := by
  have a2 := rr_ge (A := N) (n := q * 2048 + 1) (j := 11) hS (by omega) (by omega) (by decide) (by
    rw [Nat.add_mul, Nat.one_mul, show (2 : Nat) ^ 11 = 2048 from rfl, Nat.mul_right_comm]
    generalize q * S = W at *
    omega)
  rw [show 1074 - 11 = 1063 from rfl] at a2
  rw [own_w2]
  have p := Nat.two_pow_pos 1063
  generalize 2 ^ 1063 = W at *
  rw [Nat.add_mul, Nat.one_mul, Nat.mul_assoc] at a2
  generalize q * (2048 * W) = Y at *
  omega
theorem rr_lt {N S q : Nat} (hS : 0 < S) (hS2 : S ≤ 2048) (q1 : q < 2 ^ 40) (h : N < (q + 1) * S) : zmag b64 (roundRatio b64 false N S 0) < (q + 1) * 2 ^ 1074 := by
  have a2 := rr_le (A := N) (n := (q + 1) * 2048 - 1) (j := 11) hS (by omega) (by omega) (by decide) (by
    rw [Nat.sub_mul, Nat.one_mul, show (2 : Nat) ^ 11 = 2048 from rfl, Nat.mul_right_comm]
    generalize (q + 1) * S = W at *
    omega)
  rw [show 1074 - 11 = 1063 from rfl] at a2
  rw [own_w2]
  have p := Nat.two_pow_pos 1063
  generalize 2 ^ 1063 = W at *
  rw [Nat.sub_mul, Nat.one_mul, Nat.mul_assoc] at a2
  have : W ≤ (q + 1) * (2048 * W) := Nat.le_trans (Nat.le_mul_of_pos_left _ (by decide)) (Nat.le_mul_of_pos_left _ (by omega))
  generalize (q + 1) * (2048 * W) = Y at *
  omega
theorem v_0 : val64 0 = .fin false 0 b64.qmin := by decide +kernel
theorem z_of {x : UInt64} (h : val64 x = .fin false 0 b64.qmin) : x = 0 := val64_inj (by rw [h]; intro q; cases q) (by rw [h, v_0])
theorem rr_0 (B : Nat) (e : Int) : roundRatio b64 false 0 B e = .fin false 0 b64.qmin := by unfold roundRatio; rw [if_pos rfl]
theorem z_mulL {y : UInt64} {b : Nat} {m : Int} (hy : val64 y = DAT b m) : dmul 0 y = 0 := z_of (by
  rw [val64_dmul, hy, v_0]
  show roundRatio b64 (false != false) (0 * (b * 2 ^ (52 - b.log2))) 1 _ = _
  rw [Nat.zero_mul]; exact rr_0 _ _)
theorem z_mulR {y : UInt64} {b : Nat} {m : Int} (hy : val64 y = DAT b m) : dmul y 0 = 0 := by rw [dmul_comm]; exact z_mulL hy
theorem z_div {y : UInt64} {b : Nat} {m : Int} (hy : val64 y = DAT b m) (hb : 0 < b) : ddiv 0 y = 0 := z_of (by
  rw [val64_ddiv, hy, v_0]
  have e := quot_gen (c := 0) (q := b64.qmin) (d := b * 2 ^ (52 - b.log2)) (r := m - ((52 - b.log2 : Nat) : Int)) (Nat.ne_of_gt (Nat.mul_pos hb (Nat.two_pow_pos _)))
  exact e.trans (rr_0 _ _))
theorem z_addR {y : UInt64} {b : Nat} {m : Int} (hy : val64 y = DAT b m) (hb : 0 < b) : dadd y 0 = y := by
  have e0 : (0 : UInt64) = dconst0 := by decide
  rw [e0]
  refine dadd_zero (by rw [hy]; intro q; cases q) (fun q => ?_)
  rw [q, val64_dzeroNeg] at hy
  cases hy
theorem z_addL {y : UInt64} {b : Nat} {m : Int} (hy : val64 y = DAT b m) (hb : 0 < b) : dadd 0 y = y := by rw [dadd_comm]; exact z_addR hy hb
abbrev CV (x y : UInt64) (o : CmpOp) : Int32 := cmpValue (dcmp x y) o
theorem cv_eq {x y : UInt64} (o : CmpOp) (h : dcmp x y = some .eq) : CV x y o = 0 := by unfold CV; rw [h]; rfl
theorem cv_lt {x y : UInt64} (o : CmpOp) (h : dcmp x y = some .lt) : CV x y o < 0 := by unfold CV; rw [h]; cases o <;> decide
theorem cv_le {x y : UInt64} (o : CmpOp) (h : dcmp x y = some .lt ∨ dcmp x y = some .eq) : ¬ (0 : Int32) < CV x y o := by unfold CV; rcases h with h | h <;> rw [h] <;> cases o <;> decide
theorem cv_gt {x y : UInt64} (o : CmpOp) (h : dcmp x y = some .gt) : ¬ CV x y o = 0 := by unfold CV; rw [h]; cases o <;> decide
def FF (x y : UInt64) : UInt64 := if CV (dadd x y) 0 .l = (0 : Int32) then 0 else ddiv (dmul (dmul K2 x) y) (dadd x y)
theorem dat_pos {x : UInt64} {n : Nat} (h : val64 x = DAT n (-10)) (h0 : 0 < n) (h1 : n < 2 ^ 53) : POS x (n * 2 ^ 1064) := by
  refine ⟨(by rw [h]; intro q; cases q), (by rw [h]; rfl), ?_⟩
  have := zm_dat (j := 10) h0 h1 (by decide)
  rw [h]; exact this
theorem dat_ne {x : UInt64} {n : Nat} (h : val64 x = DAT n (-10)) (h0 : 0 < n) (h1 : n < 2 ^ 53) (o : CmpOp) : ¬ CV x 0 o = 0 := by
  have p := dat_pos h h0 h1
  refine cv_gt o (dcmp_gt.mpr ⟨p.1, pos_zero.1, ?_⟩)
  rw [p.zv, pos_zero.zv]
  have := Nat.mul_pos h0 (Nat.two_pow_pos 1064)
  omega
theorem l2d_pos {a : Int64} {n : Nat} (ha : a.toInt = n) (h1 : n < 2 ^ 53) : POS (l2d a) (n * 2 ^ 1074) := by
  by_cases h : n = 0
  · subst h
    have : a = 0 := Int64.toInt_inj.mp (by rw [ha]; decide)
    subst this
    rw [show l2d 0 = 0 by decide +kernel, Nat.zero_mul]; exact pos_zero
  · exact pos_dat (v_l2d ha (by omega) h1) (by omega) h1
/-- all that the law asks of the doubles -/
def FACTS (a b : Int64) (p r f g h1 hh : UInt64) : Prop :=
  Jvm.Free.Fl.NoNaN64 p ∧ Jvm.Free.Fl.NoNaN64 r ∧ Jvm.Free.Fl.NoNaN64 (dadd p r) ∧ Jvm.Free.Fl.NoNaN64 (dmul K2 p) ∧ Jvm.Free.Fl.NoNaN64 (dmul (dmul K2 p) r) ∧ (¬ CV (dadd p r) 0 .l = 0 → Jvm.Free.Fl.NoNaN64 (ddiv (dmul (dmul K2 p) r) (dadd p r))) ∧
  (a + b = 0 → CV f 0 .l = 0) ∧ (¬ a + b = 0 → Jvm.Free.Fl.NoNaN64 g ∧ Jvm.Free.Fl.NoNaN64 h1 ∧ Jvm.Free.Fl.NoNaN64 hh ∧ CV f hh .l = 0 ∧
    (((2 : Int64) * a * b) % (a + b) = 0 → CV g (l2d (((2 : Int64) * a * b) / (a + b))) .l = 0) ∧
    (¬ ((2 : Int64) * a * b) % (a + b) = 0 → CV (l2d (((2 : Int64) * a * b) / (a + b))) g .g < 0 ∧ CV g (l2d (((2 : Int64) * a * b) / (a + b) + 1)) .g < 0) ∧
    (∀ mn : Int64, 0 ≤ mn.toInt → mn.toInt ≤ a.toInt → mn.toInt ≤ b.toInt → ¬ (0 : Int32) < CV (l2d mn) g .g) ∧
    (∀ mx : Int64, a.toInt ≤ mx.toInt → b.toInt ≤ mx.toInt → mx.toInt ≤ 1024 → ¬ (0 : Int32) < CV g (l2d mx) .g))
theorem zero_tail {a b : Int64} {A B : Nat} (ha : a.toInt = A) (hb : b.toInt = B) (A2 : A ≤ 1024) (B2 : B ≤ 1024) (hS : (a + b).toInt = ((A + B : Nat) : Int)) (hN : (2 : Int64) * a * b = 0) (hz : A = 0 ∨ B = 0) (hp : 0 < A + B) {h1 hh : UInt64} (gh1 : ddiv (l2d ((2 : Int64) * a * b)) (l2d (a + b)) = h1) (ghh : ddiv h1 K10 = hh) :
    Jvm.Free.Fl.NoNaN64 (dmul 0 K10) ∧ Jvm.Free.Fl.NoNaN64 h1 ∧ Jvm.Free.Fl.NoNaN64 hh ∧ CV 0 hh .l = 0 ∧
    (((2 : Int64) * a * b) % (a + b) = 0 → CV (dmul 0 K10) (l2d (((2 : Int64) * a * b) / (a + b))) .l = 0) ∧
    (¬ ((2 : Int64) * a * b) % (a + b) = 0 → CV (l2d (((2 : Int64) * a * b) / (a + b))) (dmul 0 K10) .g < 0 ∧ CV (dmul 0 K10) (l2d (((2 : Int64) * a * b) / (a + b) + 1)) .g < 0) ∧
    (∀ mn : Int64, 0 ≤ mn.toInt → mn.toInt ≤ a.toInt → mn.toInt ≤ b.toInt → ¬ (0 : Int32) < CV (l2d mn) (dmul 0 K10) .g) ∧
    (∀ mx : Int64, a.toInt ≤ mx.toInt → b.toInt ≤ mx.toInt → mx.toInt ≤ 1024 → ¬ (0 : Int32) < CV (dmul 0 K10) (l2d mx) .g) := by
  have eg : dmul 0 K10 = 0 := by decide +kernel
  have ed : ddiv 0 K10 = 0 := by decide +kernel
  have el : l2d 0 = 0 := by decide +kernel
  have nn0 : Jvm.Free.Fl.NoNaN64 0 := nn_of (by rw [v_0]; intro q; cases q)
  rw [hN, el, z_div (v_l2d hS hp (by omega)) hp] at gh1
  subst gh1
  rw [ed] at ghh
  subst ghh
  have c0 : ∀ o, CV 0 0 o = 0 := fun o => cv_eq o (pos_zero.eq pos_zero rfl)
  have z0 : (0 : Int64).toInt = ((0 : Nat) : Int) := by decide
  have hq : (0 : Int64) / (a + b) = 0 := Int64.toInt_inj.mp (by rw [n_div z0 hS, Nat.zero_div, z0])
  have hr : (0 : Int64) % (a + b) = 0 := Int64.toInt_inj.mp (by rw [n_rem z0 hS, Nat.zero_mod, z0])
  rw [eg, hN, hq, hr, el]
  refine ⟨nn0, nn0, nn0, c0 _, fun _ => c0 _, fun q => absurd rfl q, fun mn m1 m2 m3 => ?_, fun mx m1 m2 m3 => ?_⟩
  · have : mn = 0 := Int64.toInt_inj.mp (by rw [z0]; omega)
    subst this
    rw [el]; exact cv_le _ (pos_zero.le pos_zero (Nat.le_refl _))
  · obtain ⟨M, hM⟩ : ∃ M : Nat, mx.toInt = M := ⟨mx.toInt.toNat, by omega⟩
    exact cv_le _ (pos_zero.le (l2d_pos hM (by omega)) (Nat.zero_le _))
theorem law_facts {a b : Int64} {A B : Nat} (ha : a.toInt = A) (hb : b.toInt = B) (A2 : A ≤ 1024) (B2 : B ≤ 1024) {p r f g h1 hh : UInt64} (gp : ddiv (l2d a) K10 = p) (gr : ddiv (l2d b) K10 = r) (gf : FF p r = f) (gg : dmul f K10 = g) (gh1 : ddiv (l2d ((2 : Int64) * a * b)) (l2d (a + b)) = h1) (ghh : ddiv h1 K10 = hh) : FACTS a b p r f g h1 hh := by
  have hAB : A * B ≤ 1024 * 1024 := Nat.mul_le_mul A2 B2
  have h2AB : 2 * A * B = 2 * (A * B) := Nat.mul_assoc _ _ _
  have e2 : (2 : Int64).toInt = ((2 : Nat) : Int) := by decide
  have z0 : (0 : Int64).toInt = ((0 : Nat) : Int) := by decide
  have hN : ((2 : Int64) * a * b).toInt = ((2 * A * B : Nat) : Int) := n_mul (n_mul e2 ha (by unfold MX; omega)) hb (by rw [h2AB]; unfold MX; omega)
  have hS : (a + b).toInt = ((A + B : Nat) : Int) := n_add ha hb (by unfold MX; omega)
  have nn0 : Jvm.Free.Fl.NoNaN64 0 := nn_of (by rw [v_0]; intro q; cases q)
  have el : l2d 0 = 0 := by decide +kernel
  have ed : ddiv 0 K10 = 0 := by decide +kernel
  have em : dmul K2 0 = 0 := by decide +kernel
  have emm : dmul 0 0 = 0 := by decide +kernel
  have ea : dadd 0 0 = 0 := by decide +kernel
  have c0 : ∀ o, CV 0 0 o = 0 := fun o => cv_eq o (pos_zero.eq pos_zero rfl)
  have sz : (a + b = 0) ↔ A + B = 0 := eq_n (Y := 0) hS (by decide)
  by_cases hA : A = 0
  · have a0 : a = 0 := Int64.toInt_inj.mp (by rw [ha, hA]; decide)
    rw [a0, el, ed] at gp
    subst gp
    have hN0 : (2 : Int64) * a * b = 0 := Int64.toInt_inj.mp (by rw [hN, hA, Nat.mul_zero, Nat.zero_mul, z0])
    by_cases hB : B = 0
    · have b0 : b = 0 := Int64.toInt_inj.mp (by rw [hb, hB]; decide)
      rw [b0, el, ed] at gr
      subst gr
      have ff : FF 0 0 = 0 := by unfold FF; rw [ea, if_pos (c0 _)]
      rw [ff] at gf
      subst gf
      refine ⟨nn0, nn0, by rw [ea]; exact nn0, by rw [em]; exact nn0, by rw [em, emm]; exact nn0, fun q => absurd (by rw [ea]; exact c0 _) q, fun _ => c0 _, fun q => absurd (sz.mpr (by omega)) q⟩
    · have vr : val64 r = DAT B (-10) := by have h := v_divE (v_l2d hb (by omega) (by omega)) v_1024 (by omega) (by omega) (by decide) (by decide); rw [show ((0 : Int) - 10) = -10 by decide] at h; rw [← gr]; exact h
      have ff : FF 0 r = 0 := by unfold FF; rw [em, z_mulL vr, z_addL vr (by omega), z_div vr (by omega), if_neg (dat_ne vr (by omega) (by omega) _)]
      rw [ff] at gf
      subst gf
      subst gg
      exact ⟨nn0, nn_dat vr, by rw [z_addL vr (by omega)]; exact nn_dat vr, by rw [em]; exact nn0, by rw [em, z_mulL vr]; exact nn0, fun _ => by rw [em, z_mulL vr, z_addL vr (by omega), z_div vr (by omega)]; exact nn0, fun _ => c0 _, fun _ => zero_tail ha hb A2 B2 hS hN0 (Or.inl hA) (by omega) gh1 ghh⟩
  · have vp : val64 p = DAT A (-10) := by have h := v_divE (v_l2d ha (by omega) (by omega)) v_1024 (by omega) (by omega) (by decide) (by decide); rw [show ((0 : Int) - 10) = -10 by decide] at h; rw [← gp]; exact h
    by_cases hB : B = 0
    · have b0 : b = 0 := Int64.toInt_inj.mp (by rw [hb, hB]; decide)
      rw [b0, el, ed] at gr
      subst gr
      have hN0 : (2 : Int64) * a * b = 0 := Int64.toInt_inj.mp (by rw [hN, hB, Nat.mul_zero, z0])
      have vm1 : val64 (dmul K2 p) = DAT A (-9) := by
        have h := v_mul v_2 vp (by decide) (by omega) (by omega) (by decide) (by decide)
        rw [Nat.one_mul, show ((1 : Int) + -10) = -9 by decide] at h
        exact h
      have ff : FF p 0 = 0 := by unfold FF; rw [z_mulR vm1, z_addR vp (by omega), z_div vp (by omega), if_neg (dat_ne vp (by omega) (by omega) _)]
      rw [ff] at gf
      subst gf
      subst gg
      exact ⟨nn_dat vp, nn0, by rw [z_addR vp (by omega)]; exact nn_dat vp, nn_dat vm1, by rw [z_mulR vm1]; exact nn0, fun _ => by rw [z_mulR vm1, z_addR vp (by omega), z_div vp (by omega)]; exact nn0, fun _ => c0 _, fun _ => zero_tail ha hb A2 B2 hS hN0 (Or.inr hB) (by omega) gh1 ghh⟩
    · have vr : val64 r = DAT B (-10) := by have h := v_divE (v_l2d hb (by omega) (by omega)) v_1024 (by omega) (by omega) (by decide) (by decide); rw [show ((0 : Int) - 10) = -10 by decide] at h; rw [← gr]; exact h
      have vs : val64 (dadd p r) = DAT (A + B) (-10) := v_add vp vr (by omega) (by omega) (by omega) (by omega) (by omega) (by decide) (by decide)
      have hne := dat_ne vs (by omega) (by omega) .l
      have ff : FF p r = ddiv (dmul (dmul K2 p) r) (dadd p r) := by unfold FF; rw [if_neg hne]
      rw [ff] at gf
      obtain ⟨-, -, -, vm1, vm2, ⟨_, _, vf⟩, ⟨_, _, vg⟩, ⟨_, _, vh1⟩, efh, vG⟩ := pos_case ha hb hN hS (by omega) A2 (by omega) B2 gp gr rfl rfl rfl gf gg gh1 ghh
      have pg := pos_rr vG
      have hSp : 0 < A + B := by omega
      have hB1 : 1 ≤ B := by omega
      have hA1 : 1 ≤ A := by omega
      have hAB1 : A ≤ A * B := Nat.le_mul_of_pos_right _ hB1
      have hAB2 : B ≤ A * B := Nat.le_mul_of_pos_left _ hA1
      have hq := n_div hN hS
      have hr := n_rem hN hS
      have hdm := Nat.div_add_mod (2 * A * B) (A + B)
      have hml : 2 * A * B % (A + B) < A + B := Nat.mod_lt _ hSp
      have hqp : 0 < 2 * A * B / (A + B) := Nat.div_pos (by rw [h2AB]; omega) hSp
      have hql : 2 * A * B / (A + B) ≤ 2 * A * B := Nat.div_le_self _ _
      rw [Nat.mul_comm] at hdm
      generalize hQ : 2 * A * B / (A + B) = Q at *
      generalize hR : 2 * A * B % (A + B) = R at *
      have hQ1 : Q < 2 ^ 40 := by rw [h2AB] at hql; omega
      refine ⟨nn_dat vp, nn_dat vr, nn_dat vs, nn_dat vm1, nn_dat vm2, fun _ => by rw [gf]; exact nn_fin vf, fun q => absurd (sz.mp q) (by omega), fun _ => ⟨nn_fin vg, nn_fin vh1, by rw [← efh]; exact nn_fin vf, by rw [← efh]; exact cv_eq _ (dcmp_eq.mpr ⟨(by rw [vf]; intro q; cases q), (by rw [vf]; intro q; cases q), rfl⟩), fun q => ?_, fun q => ⟨?_, ?_⟩, fun mn m1 m2 m3 => ?_, fun mx m1 m2 m3 => ?_⟩⟩
      · have hR0 : R = 0 := by rw [eq_n (Y := 0) hr (by decide)] at q; exact q
        refine cv_eq _ (pg.eq (l2d_pos hq (by omega)) (rr_eq hSp hqp (by omega) ?_))
        omega
      · have hR0 : ¬ R = 0 := fun z => q ((eq_n (Y := 0) hr (by decide)).mpr z)
        refine cv_lt _ ((l2d_pos hq (by omega)).lt pg (rr_gt hSp (by omega) hQ1 ?_))
        omega
      · have e1 : (1 : Int64).toInt = ((1 : Nat) : Int) := by decide
        refine cv_lt _ (pg.lt (l2d_pos (n_add hq e1 (by unfold MX; omega)) (by omega)) (rr_lt hSp (by omega) hQ1 ?_))
        rw [Nat.add_mul, Nat.one_mul]
        omega
      · obtain ⟨M, hM⟩ : ∃ M : Nat, mn.toInt = M := ⟨mn.toInt.toNat, by omega⟩
        by_cases hM0 : M = 0
        · subst hM0
          refine cv_le _ ((l2d_pos hM (by omega)).le pg ?_)
          rw [Nat.zero_mul]; exact Nat.zero_le _
        · refine cv_le _ ((l2d_pos hM (by omega)).le pg ?_)
          have x1 : M * A ≤ B * A := Nat.mul_le_mul_right _ (by omega)
          have x2 : M * B ≤ A * B := Nat.mul_le_mul_right _ (by omega)
          have x3 := Nat.mul_comm B A
          exact rr_ge (j := 0) hSp (by omega) (by omega) (by decide) (by rw [Nat.mul_add, h2AB, Nat.pow_zero, Nat.mul_one]; omega)
      · obtain ⟨M, hM⟩ : ∃ M : Nat, mx.toInt = M := ⟨mx.toInt.toNat, by omega⟩
        refine cv_le _ (pg.le (l2d_pos hM (by omega)) ?_)
        have x1 : B * A ≤ M * A := Nat.mul_le_mul_right _ (by omega)
        have x2 : A * B ≤ M * B := Nat.mul_le_mul_right _ (by omega)
        have x3 := Nat.mul_comm B A
        exact rr_le (j := 0) hSp (by omega) (by omega) (by decide) (by rw [Nat.mul_add, h2AB, Nat.pow_zero, Nat.mul_one]; omega)
end
theorem d2_0 : decode jdk_30_method_1_code 0 = .ok (.aload_n 0, 1) := by decide +kernel
theorem d2_1 : decode jdk_30_method_1_code 1 = .ok (.invokespecial 1, 3) := by decide +kernel
theorem d2_4 : decode jdk_30_method_1_code 4 = .ok (.return_, 1) := by decide +kernel
set_option maxRecDepth 65536 in
set_option maxHeartbeats 40000000 in
theorem b2 {l : Launch} {Z : State} {a0 : Array Value} (hw : HW a0 Z) (x0 : Addr) {n0 : Nat} {h : Heap} (Z0 : n0 ≤ h.size) : OM l Z (⟨"java/lang/Record", "<init>", "()V"⟩ : MethodName) jdk_30_method_1_code 1 none ⟨1, 0, 0, 12⟩ n0 h #[(.ref x0)] (fun v h' => v = none ∧ h' = h) 0 0 := by
  refine OM.of_body (ls := #[.val (.ref x0)]) (plainFor_of_name pn_0) (fun m => by first | (simp [entryFrame, mkF, argsToLocals, Value.category]; done) | rfl) ?_
  intro p e s m below meth c C
  refine OG.ow (OG.aloadN C d2_0 rfl rfl (pc' := 1) rfl) ?_
  refine OG.ow (OG.initO C (w13 hw) (w14 hw) (w15 hw) d2_1 rfl (by decide) (W := 0) rfl (by decide) (pc' := 4) rfl) ?_
  refine OW.retV C d2_4 (by decide) (by decide) ?_
  exact ⟨rfl, rfl⟩
theorem d1_0 : decode prog_19_method_1_code 0 = .ok (.aload_n 0, 1) := by decide +kernel
theorem d1_1 : decode prog_19_method_1_code 1 = .ok (.invokespecial 1, 3) := by decide +kernel
theorem d1_4 : decode prog_19_method_1_code 4 = .ok (.aload_n 0, 1) := by decide +kernel
theorem d1_5 : decode prog_19_method_1_code 5 = .ok (.dload_n 1, 1) := by decide +kernel
theorem d1_6 : decode prog_19_method_1_code 6 = .ok (.putfield 7, 3) := by decide +kernel
theorem d1_9 : decode prog_19_method_1_code 9 = .ok (.aload_n 0, 1) := by decide +kernel
theorem d1_10 : decode prog_19_method_1_code 10 = .ok (.dload_n 3, 1) := by decide +kernel
theorem d1_11 : decode prog_19_method_1_code 11 = .ok (.putfield 13, 3) := by decide +kernel
theorem d1_14 : decode prog_19_method_1_code 14 = .ok (.return_, 1) := by decide +kernel
set_option maxRecDepth 65536 in
set_option maxHeartbeats 40000000 in
theorem b1 {l : Launch} {Z : State} {a0 : Array Value} (hw : HW a0 Z) (x0 : Addr) (x1 : UInt64) (x2 : UInt64) {n0 : Nat} {h : Heap} (Z0 : n0 ≤ h.size) (g0 : n0 ≤ x0) (E0 : Exa Z h x0 "com/example/gleaner/gleaner/text/ExtractionScore") (F0 : Fld Z h x0 "com/example/gleaner/gleaner/text/ExtractionScore" "precision" "D" (.double (0 : UInt64))) (F1 : Fld Z h x0 "com/example/gleaner/gleaner/text/ExtractionScore" "recall" "D" (.double (0 : UInt64))) : OM l Z (⟨"com/example/gleaner/gleaner/text/ExtractionScore", "<init>", "(DD)V"⟩ : MethodName) prog_19_method_1_code 5 none ⟨2, 0, 0, 24⟩ n0 h #[(.ref x0), (.double x1), (.double x2)] (fun v h' => v = none ∧ Keep h h' [x0] ∧ Fld Z h' x0 "com/example/gleaner/gleaner/text/ExtractionScore" "precision" "D" (.double x1) ∧ Fld Z h' x0 "com/example/gleaner/gleaner/text/ExtractionScore" "recall" "D" (.double x2)) 0 0 := by
  refine OM.of_body (ls := #[.val (.ref x0), .val (.double x1), .second, .val (.double x2), .second]) (plainFor_of_name pn_1) (fun m => by first | (simp [entryFrame, mkF, argsToLocals, Value.category]; done) | rfl) ?_
  intro p e s m below meth c C
  refine OG.ow (OG.aloadN C d1_0 rfl rfl (pc' := 1) rfl) ?_
  refine OG.ow (OG.init C (w8 hw) (w9 hw) (w11 hw) (w12 hw) rfl (by decide) (b2 hw x0 Z0) d1_1 pd_0 rfl (argsL := []) (rest := []) rfl rfl (W := 0) rfl (by decide) (by decide) (pc' := 4) rfl) ?_
  refine OG.ow (OG.aloadN C d1_4 rfl rfl (pc' := 5) rfl) ?_
  refine OG.ow (OG.dloadN C d1_5 rfl (pc' := 6) rfl) ?_
  refine OW.putF C (host := "") (Or.inl (w16 hw)) Via.refl F0 E0 (Or.inr ⟨(w17 hw), rfl, rfl⟩) (w3 hw) (ty := .double) (by decide) rfl rfl g0 d1_6 (pc' := 9) rfl ?_
  intro h1 Wh1
  have G2 := Fld.same Wh1 F0
  refine OG.ow (OG.aloadN C d1_9 rfl rfl (pc' := 10) rfl) ?_
  refine OG.ow (OG.dloadN C d1_10 rfl (pc' := 11) rfl) ?_
  have G3 := (Fld.other Wh1 F1 (Or.inr (slot_ne (Or.inr (w19 hw)) (Or.inr (w17 hw)) (by decide) (t := .double) (t' := .double) (by decide) (by decide))))
  have G4 := (Exa.wr Wh1 E0)
  refine OW.putF C (host := "") (Or.inl (w18 hw)) Via.refl G3 G4 (Or.inr ⟨(w19 hw), rfl, rfl⟩) (w3 hw) (ty := .double) (by decide) rfl rfl g0 d1_11 (pc' := 14) rfl ?_
  intro h5 Wh5
  have G6 := Fld.same Wh5 G3
  refine OW.retV C d1_14 (by decide) (by decide) ?_
  have G7 := (Fld.other Wh5 G2 (Or.inr (slot_ne (Or.inr (w17 hw)) (Or.inr (w19 hw)) (by decide) (t := .double) (t' := .double) (by decide) (by decide))))
  exact ⟨rfl, (((Keep.refl h [x0]).wr Wh1 (Or.inl (List.mem_of_getElem? (i := 0) rfl))).wr Wh5 (Or.inl (List.mem_of_getElem? (i := 0) rfl))), G7, G6⟩
theorem d4_0 : decode prog_19_method_2_code 0 = .ok (.aload_n 0, 1) := by decide +kernel
theorem d4_1 : decode prog_19_method_2_code 1 = .ok (.getfield 7, 3) := by decide +kernel
theorem d4_4 : decode prog_19_method_2_code 4 = .ok (.aload_n 0, 1) := by decide +kernel
theorem d4_5 : decode prog_19_method_2_code 5 = .ok (.getfield 13, 3) := by decide +kernel
theorem d4_8 : decode prog_19_method_2_code 8 = .ok (.dadd, 1) := by decide +kernel
theorem d4_9 : decode prog_19_method_2_code 9 = .ok (.dstore_n 1, 1) := by decide +kernel
theorem d4_10 : decode prog_19_method_2_code 10 = .ok (.dload_n 1, 1) := by decide +kernel
theorem d4_11 : decode prog_19_method_2_code 11 = .ok (.dconst 0, 1) := by decide +kernel
theorem d4_12 : decode prog_19_method_2_code 12 = .ok (.dcmp .l, 1) := by decide +kernel
theorem d4_13 : decode prog_19_method_2_code 13 = .ok (.ifCond .ne 7, 3) := by decide +kernel
theorem d4_16 : decode prog_19_method_2_code 16 = .ok (.dconst 0, 1) := by decide +kernel
theorem d4_17 : decode prog_19_method_2_code 17 = .ok (.goto 18, 3) := by decide +kernel
theorem d4_20 : decode prog_19_method_2_code 20 = .ok (.ldc2_w 16, 3) := by decide +kernel
theorem d4_23 : decode prog_19_method_2_code 23 = .ok (.aload_n 0, 1) := by decide +kernel
theorem d4_24 : decode prog_19_method_2_code 24 = .ok (.getfield 7, 3) := by decide +kernel
theorem d4_27 : decode prog_19_method_2_code 27 = .ok (.dmul, 1) := by decide +kernel
theorem d4_28 : decode prog_19_method_2_code 28 = .ok (.aload_n 0, 1) := by decide +kernel
theorem d4_29 : decode prog_19_method_2_code 29 = .ok (.getfield 13, 3) := by decide +kernel
theorem d4_32 : decode prog_19_method_2_code 32 = .ok (.dmul, 1) := by decide +kernel
theorem d4_33 : decode prog_19_method_2_code 33 = .ok (.dload_n 1, 1) := by decide +kernel
theorem d4_34 : decode prog_19_method_2_code 34 = .ok (.ddiv, 1) := by decide +kernel
theorem d4_35 : decode prog_19_method_2_code 35 = .ok (.dreturn, 1) := by decide +kernel
set_option maxRecDepth 65536 in
set_option maxHeartbeats 40000000 in
theorem b4 {l : Launch} {Z : State} {a0 : Array Value} (hw : HW a0 Z) (x0 : Addr) {x y : UInt64} {n0 : Nat} {h : Heap} (Z0 : n0 ≤ h.size) (F0 : Fld Z h x0 "com/example/gleaner/gleaner/text/ExtractionScore" "precision" "D" (.double x)) (F1 : Fld Z h x0 "com/example/gleaner/gleaner/text/ExtractionScore" "recall" "D" (.double y)) (n3 : Jvm.Free.Fl.NoNaN64 (FP.dadd x y)) (n4 : Jvm.Free.Fl.NoNaN64 (FP.dmul K2 x)) (n5 : Jvm.Free.Fl.NoNaN64 (FP.dmul (FP.dmul K2 x) y)) (n6 : ¬ CV (FP.dadd x y) 0 .l = 0 → Jvm.Free.Fl.NoNaN64 (FP.ddiv (FP.dmul (FP.dmul K2 x) y) (FP.dadd x y))) : OM l Z (⟨"com/example/gleaner/gleaner/text/ExtractionScore", "f1", "()D"⟩ : MethodName) prog_19_method_2_code 3 (some .double) ⟨0, 0, 0, 0⟩ n0 h #[(.ref x0)] (fun v h' => v = some (.double (FF x y)) ∧ h' = h) 0 0 := by
  refine OM.of_body (ls := #[.val (.ref x0), .unset, .unset]) (plainFor_of_name pn_1) (fun m => by first | (simp [entryFrame, mkF, argsToLocals, Value.category]; done) | rfl) ?_
  intro p e s m below meth c C
  refine OG.ow (OG.aloadN C d4_0 rfl rfl (pc' := 1) rfl) ?_
  refine OG.ow (OG.getF C (host := "") (Or.inl (w16 hw)) Via.refl F0 d4_1 (pc' := 4) rfl) ?_
  refine OG.ow (OG.aloadN C d4_4 rfl rfl (pc' := 5) rfl) ?_
  refine OG.ow (OG.getF C (host := "") (Or.inl (w18 hw)) Via.refl F1 d4_5 (pc' := 8) rfl) ?_
  refine OG.ow (OG.dadd C n3 d4_8 (pc' := 9) rfl) ?_
  refine OG.ow (OG.dstoreN C d4_9 (ls' := #[.val (.ref x0), .val (.double (FP.dadd x y)), .second]) rfl (pc' := 10) rfl) ?_
  refine OG.ow (OG.dloadN C d4_10 rfl (pc' := 11) rfl) ?_
  refine OG.ow (OG.dconst0 C d4_11 (pc' := 12) rfl) ?_
  refine OG.ow (OG.dcmp C d4_12 (pc' := 13) rfl) ?_
  by_cases hc1 : (cmpValue (FP.dcmp (FP.dadd x y) (0 : UInt64)) .l) = (0 : Int32)
  · refine OG.ow (OG.ifNo C d4_13 ((if0 _ _).trans (teq hc1).2) (pc' := 16) rfl) ?_
    refine OG.ow (OG.dconst0 C d4_16 (pc' := 17) rfl) ?_
    refine OG.ow (OG.goto C d4_17 (by decide) (pc' := 35) (by decide)) ?_
    refine OW.retD C d4_35 (by decide) (by decide) ?_
    exact ⟨by unfold FF; rw [if_pos hc1], rfl⟩
  · refine OG.ow (OG.ifYes C d4_13 ((if0 _ _).trans (feq hc1).2) (by decide) (pc' := 20) (by decide)) ?_
    refine OG.ow (OG.ldcD C (w25 hw) d4_20 (pc' := 23) rfl) ?_
    refine OG.ow (OG.aloadN C d4_23 rfl rfl (pc' := 24) rfl) ?_
    refine OG.ow (OG.getF C (host := "") (Or.inl (w16 hw)) Via.refl F0 d4_24 (pc' := 27) rfl) ?_
    refine OG.ow (OG.dmul C n4 d4_27 (pc' := 28) rfl) ?_
    refine OG.ow (OG.aloadN C d4_28 rfl rfl (pc' := 29) rfl) ?_
    refine OG.ow (OG.getF C (host := "") (Or.inl (w18 hw)) Via.refl F1 d4_29 (pc' := 32) rfl) ?_
    refine OG.ow (OG.dmul C n5 d4_32 (pc' := 33) rfl) ?_
    refine OG.ow (OG.dloadN C d4_33 rfl (pc' := 34) rfl) ?_
    refine OG.ow (OG.ddiv C (n6 hc1) d4_34 (pc' := 35) rfl) ?_
    refine OW.retD C d4_35 (by decide) (by decide) ?_
    exact ⟨by unfold FF; rw [if_neg hc1], rfl⟩
theorem d5_0 : decode jdk_29_method_70_code 0 = .ok (.lload_n 0, 1) := by decide +kernel
theorem d5_1 : decode jdk_29_method_70_code 1 = .ok (.lload_n 2, 1) := by decide +kernel
theorem d5_2 : decode jdk_29_method_70_code 2 = .ok (.lcmp, 1) := by decide +kernel
theorem d5_3 : decode jdk_29_method_70_code 3 = .ok (.ifCond .gt 7, 3) := by decide +kernel
theorem d5_6 : decode jdk_29_method_70_code 6 = .ok (.lload_n 0, 1) := by decide +kernel
theorem d5_7 : decode jdk_29_method_70_code 7 = .ok (.goto 4, 3) := by decide +kernel
theorem d5_10 : decode jdk_29_method_70_code 10 = .ok (.lload_n 2, 1) := by decide +kernel
theorem d5_11 : decode jdk_29_method_70_code 11 = .ok (.lreturn, 1) := by decide +kernel
def F5 (x0 : Int64) (x1 : Int64) : Int64 := (if x1 < x0 then x1 else x0)
set_option maxRecDepth 65536 in
set_option maxHeartbeats 40000000 in
theorem b5 {l : Launch} {Z : State} {a0 : Array Value} (hw : HW a0 Z) (x0 : Int64) (x1 : Int64) {n0 : Nat} {h : Heap}  : OM l Z (⟨"java/lang/Math", "min", "(JJ)J"⟩ : MethodName) jdk_29_method_70_code 4 (some .long) ⟨0, 0, 0, 0⟩ n0 h #[(.long x0), (.long x1)] (fun v h' => v = some (.long (F5 x0 x1)) ∧ h' = h) 0 0 := by
  refine OM.of_body (ls := #[.val (.long x0), .second, .val (.long x1), .second]) (by decide +kernel) (fun m => by first | (simp [entryFrame, mkF, argsToLocals, Value.category]; done) | rfl) ?_
  intro p e s m below meth c C
  refine OG.ow (OG.lloadN C d5_0 rfl (pc' := 1) rfl) ?_
  refine OG.ow (OG.lloadN C d5_1 rfl (pc' := 2) rfl) ?_
  refine OG.ow (OG.lcmp C d5_2 (pc' := 3) rfl) ?_
  refine OG.ow (OG.ite (α := Int64) (P := x1 < x0) (f := fun v => (mkF m 11 #[.val (.long x0), .second, .val (.long x1), .second] [(.long v)])) (x := x1) (y := x0) (fun hc => ?_) (fun hc => ?_)) ?_
  · refine OG.trans (OG.ifYes C d5_3 (tltL hc).2.2.1 (by decide) (pc' := 10) (by decide)) ?_
    refine OG.trans (OG.lloadN C d5_10 rfl (pc' := 11) rfl) ?_
    exact OG.refl
  · refine OG.trans (OG.ifNo C d5_3 (fltL hc).2.2.1 (pc' := 6) rfl) ?_
    refine OG.trans (OG.lloadN C d5_6 rfl (pc' := 7) rfl) ?_
    refine OG.trans (OG.goto C d5_7 (by decide) (pc' := 11) (by decide)) ?_
    exact OG.refl
  refine OW.retL C d5_11 (by decide) (by decide) ?_
  refine ⟨congrArg (fun z => some (Value.long z)) ?_, rfl⟩
  show _ = F5 x0 x1
  rfl
theorem d6_0 : decode jdk_29_method_66_code 0 = .ok (.lload_n 0, 1) := by decide +kernel
theorem d6_1 : decode jdk_29_method_66_code 1 = .ok (.lload_n 2, 1) := by decide +kernel
theorem d6_2 : decode jdk_29_method_66_code 2 = .ok (.lcmp, 1) := by decide +kernel
theorem d6_3 : decode jdk_29_method_66_code 3 = .ok (.ifCond .lt 7, 3) := by decide +kernel
theorem d6_6 : decode jdk_29_method_66_code 6 = .ok (.lload_n 0, 1) := by decide +kernel
theorem d6_7 : decode jdk_29_method_66_code 7 = .ok (.goto 4, 3) := by decide +kernel
theorem d6_10 : decode jdk_29_method_66_code 10 = .ok (.lload_n 2, 1) := by decide +kernel
theorem d6_11 : decode jdk_29_method_66_code 11 = .ok (.lreturn, 1) := by decide +kernel
def F6 (x0 : Int64) (x1 : Int64) : Int64 := (if x0 < x1 then x1 else x0)
set_option maxRecDepth 65536 in
set_option maxHeartbeats 40000000 in
theorem b6 {l : Launch} {Z : State} {a0 : Array Value} (hw : HW a0 Z) (x0 : Int64) (x1 : Int64) {n0 : Nat} {h : Heap}  : OM l Z (⟨"java/lang/Math", "max", "(JJ)J"⟩ : MethodName) jdk_29_method_66_code 4 (some .long) ⟨0, 0, 0, 0⟩ n0 h #[(.long x0), (.long x1)] (fun v h' => v = some (.long (F6 x0 x1)) ∧ h' = h) 0 0 := by
  refine OM.of_body (ls := #[.val (.long x0), .second, .val (.long x1), .second]) (by decide +kernel) (fun m => by first | (simp [entryFrame, mkF, argsToLocals, Value.category]; done) | rfl) ?_
  intro p e s m below meth c C
  refine OG.ow (OG.lloadN C d6_0 rfl (pc' := 1) rfl) ?_
  refine OG.ow (OG.lloadN C d6_1 rfl (pc' := 2) rfl) ?_
  refine OG.ow (OG.lcmp C d6_2 (pc' := 3) rfl) ?_
  refine OG.ow (OG.ite (α := Int64) (P := x0 < x1) (f := fun v => (mkF m 11 #[.val (.long x0), .second, .val (.long x1), .second] [(.long v)])) (x := x1) (y := x0) (fun hc => ?_) (fun hc => ?_)) ?_
  · refine OG.trans (OG.ifYes C d6_3 (tltL hc).1 (by decide) (pc' := 10) (by decide)) ?_
    refine OG.trans (OG.lloadN C d6_10 rfl (pc' := 11) rfl) ?_
    exact OG.refl
  · refine OG.trans (OG.ifNo C d6_3 (fltL hc).1 (pc' := 6) rfl) ?_
    refine OG.trans (OG.lloadN C d6_6 rfl (pc' := 7) rfl) ?_
    refine OG.trans (OG.goto C d6_7 (by decide) (pc' := 11) (by decide)) ?_
    exact OG.refl
  refine OW.retL C d6_11 (by decide) (by decide) ?_
  refine ⟨congrArg (fun z => some (Value.long z)) ?_, rfl⟩
  show _ = F6 x0 x1
  rfl
theorem own_a {x : Int32} {a : Int64} (g : ((x &&& (2147483647 : Int32)) % (1025 : Int32)).toInt64 = a) : ∃ A : Nat, a.toInt = A ∧ A ≤ 1024 := by
  have h := c_mask x 2147483647 31 (by decide) (by decide)
  have h2 : ((x &&& (2147483647 : Int32)) % (1025 : Int32)).toInt = (x &&& (2147483647 : Int32)).toInt % 1025 := by
    rw [Int32.toInt_mod, show (1025 : Int32).toInt = 1025 by decide, Int.tmod_eq_emod_of_nonneg (by omega)]
  refine ⟨a.toInt.toNat, ?_, ?_⟩ <;> rw [← g, c_i2l, h2] <;> omega
theorem own_mn {a b : Int64} {A B : Nat} (ha : a.toInt = A) (hb : b.toInt = B) : 0 ≤ (F5 a b).toInt ∧ (F5 a b).toInt ≤ a.toInt ∧ (F5 a b).toInt ≤ b.toInt := by
  unfold F5
  split <;> rename_i q <;> rw [Int64.lt_iff_toInt_lt] at q <;> omega
theorem own_mx {a b : Int64} {A B : Nat} (ha : a.toInt = A) (hb : b.toInt = B) (A2 : A ≤ 1024) (B2 : B ≤ 1024) : a.toInt ≤ (F6 a b).toInt ∧ b.toInt ≤ (F6 a b).toInt ∧ (F6 a b).toInt ≤ 1024 := by
  unfold F6
  split <;> rename_i q <;> rw [Int64.lt_iff_toInt_lt] at q <;> omega
set_option maxRecDepth 65536 in
set_option maxHeartbeats 40000000 in
theorem b0 {l : Launch} {Z : State} {a0 : Array Value} (hw : HW a0 Z) (x0 : Int32) (x1 : Int32) {n0 : Nat} {h : Heap} (Z0 : n0 ≤ h.size) : OM l Z x code maxLocals ret room_1 n0 h #[(.int x0), (.int x1)] (fun v h' => v = some (.int 1)) 1 2 := by
  refine OM.of_body (ls := #[.val (.int x0), .val (.int x1), .unset, .unset, .unset, .unset, .unset, .unset, .unset, .unset, .unset, .unset, .unset, .unset, .unset, .unset, .unset, .unset, .unset, .unset, .unset, .unset, .unset, .unset, .unset]) (plainFor_of_name pn_2) (fun m => by first | (simp [entryFrame, mkF, argsToLocals, Value.category, maxLocals]; done) | rfl) ?_
  intro p e s m below meth c C
  refine OG.ow (OG.iloadN C at_0 rfl (pc' := 1) rfl) ?_
  refine OG.ow (OG.ldcI C (w0 hw) at_1 (pc' := 3) rfl) ?_
  refine OG.ow (OG.iand C at_3 (pc' := 4) rfl) ?_
  refine OG.ow (OG.sipush C at_4 (z := (1025 : Int32)) (by decide) (pc' := 7) rfl) ?_
  refine OG.ow (OG.irem C at_7 (by decide) (pc' := 8) rfl) ?_
  refine OG.ow (OG.i2l C at_8 (pc' := 9) rfl) ?_
  generalize ga : ((x0 &&& (2147483647 : Int32)) % (1025 : Int32)).toInt64 = a
  obtain ⟨A, hA, A2⟩ := own_a ga
  refine OG.ow (OG.lstoreN C at_9 (ls' := #[.val (.int x0), .val (.int x1), .val (.long a), .second, .unset, .unset, .unset, .unset, .unset, .unset, .unset, .unset, .unset, .unset, .unset, .unset, .unset, .unset, .unset, .unset, .unset, .unset, .unset, .unset, .unset]) rfl (pc' := 10) rfl) ?_
  refine OG.ow (OG.iloadN C at_10 rfl (pc' := 11) rfl) ?_
  refine OG.ow (OG.ldcI C (w0 hw) at_11 (pc' := 13) rfl) ?_
  refine OG.ow (OG.iand C at_13 (pc' := 14) rfl) ?_
  refine OG.ow (OG.sipush C at_14 (z := (1025 : Int32)) (by decide) (pc' := 17) rfl) ?_
  refine OG.ow (OG.irem C at_17 (by decide) (pc' := 18) rfl) ?_
  refine OG.ow (OG.i2l C at_18 (pc' := 19) rfl) ?_
  generalize gb : ((x1 &&& (2147483647 : Int32)) % (1025 : Int32)).toInt64 = b
  obtain ⟨B, hB, B2⟩ := own_a gb
  refine OG.ow (OG.lstore C at_19 (ls' := #[.val (.int x0), .val (.int x1), .val (.long a), .second, .val (.long b), .second, .unset, .unset, .unset, .unset, .unset, .unset, .unset, .unset, .unset, .unset, .unset, .unset, .unset, .unset, .unset, .unset, .unset, .unset, .unset]) rfl (pc' := 21) rfl) ?_
  obtain ⟨p, gp⟩ : ∃ p, FP.ddiv (FP.l2d a) (4652218415073722368 : UInt64) = p := ⟨_, rfl⟩
  obtain ⟨r, gr⟩ : ∃ r, FP.ddiv (FP.l2d b) (4652218415073722368 : UInt64) = r := ⟨_, rfl⟩
  obtain ⟨f, gf⟩ : ∃ f, FF p r = f := ⟨_, rfl⟩
  obtain ⟨g, gg⟩ : ∃ g, FP.dmul f (4652218415073722368 : UInt64) = g := ⟨_, rfl⟩
  obtain ⟨h1, gh1⟩ : ∃ h1, FP.ddiv (FP.l2d (((2 : Int64) * a) * b)) (FP.l2d (a + b)) = h1 := ⟨_, rfl⟩
  obtain ⟨hh, ghh⟩ : ∃ hh, FP.ddiv h1 (4652218415073722368 : UInt64) = hh := ⟨_, rfl⟩
  obtain ⟨n1, n2, n3, n4, n5, n6, z1, z2⟩ := law_facts hA hB A2 B2 gp gr gf gg gh1 ghh
  refine OG.ow (OG.lloadN C at_21 rfl (pc' := 22) rfl) ?_
  refine OG.ow (OG.l2d C at_22 (pc' := 23) rfl) ?_
  refine OG.ow (OG.ldcD C (w1 hw) at_23 (pc' := 26) rfl) ?_
  refine OG.ow (OG.ddiv C (by rw [gp]; exact n1) at_26 (pc' := 27) rfl) ?_
  rw [gp]
  refine OG.ow (OG.dstore C at_27 (ls' := #[.val (.int x0), .val (.int x1), .val (.long a), .second, .val (.long b), .second, .val (.double p), .second, .unset, .unset, .unset, .unset, .unset, .unset, .unset, .unset, .unset, .unset, .unset, .unset, .unset, .unset, .unset, .unset, .unset]) rfl (pc' := 29) rfl) ?_
  refine OG.ow (OG.lload C at_29 rfl (pc' := 31) rfl) ?_
  refine OG.ow (OG.l2d C at_31 (pc' := 32) rfl) ?_
  refine OG.ow (OG.ldcD C (w1 hw) at_32 (pc' := 35) rfl) ?_
  refine OG.ow (OG.ddiv C (by rw [gr]; exact n2) at_35 (pc' := 36) rfl) ?_
  rw [gr]
  refine OG.ow (OG.dstore C at_36 (ls' := #[.val (.int x0), .val (.int x1), .val (.long a), .second, .val (.long b), .second, .val (.double p), .second, .val (.double r), .second, .unset, .unset, .unset, .unset, .unset, .unset, .unset, .unset, .unset, .unset, .unset, .unset, .unset, .unset, .unset]) rfl (pc' := 38) rfl) ?_
  refine OW.newO C (w2 hw) (w3 hw) (w4 hw) at_38 (by decide) (by decide) (pc' := 41) rfl ?_
  intro a1 h2 ga1 Eh2 Aa1 Da1
  refine OG.ow (OG.dup C at_41 rfl (pc' := 42) rfl) ?_
  refine OG.ow (OG.dload C at_42 rfl (pc' := 44) rfl) ?_
  refine OG.ow (OG.dload C at_44 rfl (pc' := 46) rfl) ?_
  refine OW.init C (w5 hw) (w6 hw) (w4 hw) (w7 hw) rfl (by decide) (b1 hw a1 p r (Nat.le_trans Z0 Eh2.1) (Nat.le_trans Z0 (Nat.le_of_eq ga1)) Aa1 (show Fld Z h2 a1 "com/example/gleaner/gleaner/text/ExtractionScore" "precision" "D" (.double (0 : UInt64)) from Da1 (Or.inr (w17 hw)) (ty := .double) (by decide)) (show Fld Z h2 a1 "com/example/gleaner/gleaner/text/ExtractionScore" "recall" "D" (.double (0 : UInt64)) from Da1 (Or.inr (w19 hw)) (ty := .double) (by decide))) at_46 pd_1 rfl (argsL := [(.double p), (.double r)]) (rest := [(.ref a1)]) rfl rfl (W := 1) rfl (by decide) (by decide) (by decide) (by decide) (pc' := 49) rfl ?_
  intro vh3 h3 qh3
  obtain ⟨rfl, Kh3, Ph3, Rh3⟩ := qh3
  have G4 := (Aa1.keep Kh3)
  refine OG.ow (OG.callV C (w20 hw) (w21 hw) (w23 hw) (w22 hw) (w4 hw) (w24 hw) (by decide) G4 (b4 hw a1 (Nat.le_trans (Nat.le_trans Z0 Eh2.1) Kh3.1) Ph3 Rh3 n3 n4 n5 n6) at_49 pd_2 rfl (argsL := []) (rest := []) rfl rfl (W := 0) rfl (by decide) (by decide) (pc' := 52) rfl) ?_
  rw [gf]
  refine OG.ow (OG.dstore C at_52 (ls' := #[.val (.int x0), .val (.int x1), .val (.long a), .second, .val (.long b), .second, .val (.double p), .second, .val (.double r), .second, .val (.double f), .second, .unset, .unset, .unset, .unset, .unset, .unset, .unset, .unset, .unset, .unset, .unset, .unset, .unset]) rfl (pc' := 54) rfl) ?_
  refine OG.ow (OG.lloadN C at_54 rfl (pc' := 55) rfl) ?_
  refine OG.ow (OG.lload C at_55 rfl (pc' := 57) rfl) ?_
  refine OG.ow (OG.ladd C at_57 (pc' := 58) rfl) ?_
  refine OG.ow (OG.lstore C at_58 (ls' := #[.val (.int x0), .val (.int x1), .val (.long a), .second, .val (.long b), .second, .val (.double p), .second, .val (.double r), .second, .val (.double f), .second, .val (.long (a + b)), .second, .unset, .unset, .unset, .unset, .unset, .unset, .unset, .unset, .unset, .unset, .unset]) rfl (pc' := 60) rfl) ?_
  refine OG.ow (OG.lload C at_60 rfl (pc' := 62) rfl) ?_
  refine OG.ow (OG.lconst C at_62 (z := (0 : Int64)) rfl (pc' := 63) rfl) ?_
  refine OG.ow (OG.lcmp C at_63 (pc' := 64) rfl) ?_
  by_cases hc5 : (a + b) = (0 : Int64)
  · refine OG.ow (OG.ifNo C at_64 (teqL hc5).2 (pc' := 67) rfl) ?_
    refine OG.ow (OG.dload C at_67 rfl (pc' := 69) rfl) ?_
    refine OG.ow (OG.dconst0 C at_69 (pc' := 70) rfl) ?_
    refine OG.ow (OG.dcmp C at_70 (pc' := 71) rfl) ?_
    refine OG.ow (OG.ifNo C at_71 ((if0 _ _).trans (teq (z1 hc5)).2) (pc' := 74) rfl) ?_
    refine OG.ow (OG.iconst C at_74 (z := (1 : Int32)) rfl (pc' := 75) rfl) ?_
    refine OG.ow (OG.goto C at_75 (by decide) (pc' := 79) (by decide)) ?_
    refine OW.retN (t := .boolean) C (by simp) at_79 (by decide) (by decide) ?_
    rfl
  · refine OG.ow (OG.ifYes C at_64 (feqL hc5).2 (by decide) (pc' := 80) (by decide)) ?_
    obtain ⟨k1, k2, k3, k4, k5, k6, k7, k8⟩ := z2 hc5
    have hz0 := hc5
    refine OG.ow (OG.ldcL C (w26 hw) at_80 (pc' := 83) rfl) ?_
    refine OG.ow (OG.lloadN C at_83 rfl (pc' := 84) rfl) ?_
    refine OG.ow (OG.lmul C at_84 (pc' := 85) rfl) ?_
    refine OG.ow (OG.lload C at_85 rfl (pc' := 87) rfl) ?_
    refine OG.ow (OG.lmul C at_87 (pc' := 88) rfl) ?_
    refine OG.ow (OG.lstore C at_88 (ls' := #[.val (.int x0), .val (.int x1), .val (.long a), .second, .val (.long b), .second, .val (.double p), .second, .val (.double r), .second, .val (.double f), .second, .val (.long (a + b)), .second, .val (.long (((2 : Int64) * a) * b)), .second, .unset, .unset, .unset, .unset, .unset, .unset, .unset, .unset, .unset]) rfl (pc' := 90) rfl) ?_
    refine OG.ow (OG.dload C at_90 rfl (pc' := 92) rfl) ?_
    refine OG.ow (OG.ldcD C (w1 hw) at_92 (pc' := 95) rfl) ?_
    refine OG.ow (OG.dmul C (by rw [gg]; exact k1) at_95 (pc' := 96) rfl) ?_
    rw [gg]
    refine OG.ow (OG.dstore C at_96 (ls' := #[.val (.int x0), .val (.int x1), .val (.long a), .second, .val (.long b), .second, .val (.double p), .second, .val (.double r), .second, .val (.double f), .second, .val (.long (a + b)), .second, .val (.long (((2 : Int64) * a) * b)), .second, .val (.double g), .second, .unset, .unset, .unset, .unset, .unset, .unset, .unset]) rfl (pc' := 98) rfl) ?_
    refine OG.ow (OG.lload C at_98 rfl (pc' := 100) rfl) ?_
    refine OG.ow (OG.lload C at_100 rfl (pc' := 102) rfl) ?_
    refine OG.ow (OG.ldiv C at_102 hz0 (pc' := 103) rfl) ?_
    refine OG.ow (OG.lstore C at_103 (ls' := #[.val (.int x0), .val (.int x1), .val (.long a), .second, .val (.long b), .second, .val (.double p), .second, .val (.double r), .second, .val (.double f), .second, .val (.long (a + b)), .second, .val (.long (((2 : Int64) * a) * b)), .second, .val (.double g), .second, .val (.long ((((2 : Int64) * a) * b) / (a + b))), .second, .unset, .unset, .unset, .unset, .unset]) rfl (pc' := 105) rfl) ?_
    refine OG.ow (OG.lload C at_105 rfl (pc' := 107) rfl) ?_
    refine OG.ow (OG.lload C at_107 rfl (pc' := 109) rfl) ?_
    refine OG.ow (OG.lrem C at_109 hz0 (pc' := 110) rfl) ?_
    refine OG.ow (OG.lstore C at_110 (ls' := #[.val (.int x0), .val (.int x1), .val (.long a), .second, .val (.long b), .second, .val (.double p), .second, .val (.double r), .second, .val (.double f), .second, .val (.long (a + b)), .second, .val (.long (((2 : Int64) * a) * b)), .second, .val (.double g), .second, .val (.long ((((2 : Int64) * a) * b) / (a + b))), .second, .val (.long ((((2 : Int64) * a) * b) % (a + b))), .second, .unset, .unset, .unset]) rfl (pc' := 112) rfl) ?_
    refine OG.ow (OG.lload C at_112 rfl (pc' := 114) rfl) ?_
    refine OG.ow (OG.lconst C at_114 (z := (0 : Int64)) rfl (pc' := 115) rfl) ?_
    refine OG.ow (OG.lcmp C at_115 (pc' := 116) rfl) ?_
    refine OG.ow (OG.ite0 (P := ((((2 : Int64) * a) * b) % (a + b)) = (0 : Int64)) (g' := (mkF m 165 #[.val (.int x0), .val (.int x1), .val (.long a), .second, .val (.long b), .second, .val (.double p), .second, .val (.double r), .second, .val (.double f), .second, .val (.long (a + b)), .second, .val (.long (((2 : Int64) * a) * b)), .second, .val (.double g), .second, .val (.long ((((2 : Int64) * a) * b) / (a + b))), .second, .val (.long ((((2 : Int64) * a) * b) % (a + b))), .second, .val (.int (1 : Int32)), .unset, .unset] [])) (fun hc => ?_) (fun hc => ?_)) ?_
    · refine OG.trans (OG.ifNo C at_116 (teqL hc).2 (pc' := 119) rfl) ?_
      refine OG.trans (OG.dload C at_119 rfl (pc' := 121) rfl) ?_
      refine OG.trans (OG.lload C at_121 rfl (pc' := 123) rfl) ?_
      refine OG.trans (OG.l2d C at_123 (pc' := 124) rfl) ?_
      refine OG.trans (OG.dcmp C at_124 (pc' := 125) rfl) ?_
      refine OG.trans (OG.ifNo C at_125 ((if0 _ _).trans (teq (k5 hc)).2) (pc' := 128) rfl) ?_
      refine OG.trans (OG.iconst C at_128 (z := (1 : Int32)) rfl (pc' := 129) rfl) ?_
      refine OG.trans (OG.goto C at_129 (by decide) (pc' := 133) (by decide)) ?_
      refine OG.trans (OG.istore C at_133 (ls' := #[.val (.int x0), .val (.int x1), .val (.long a), .second, .val (.long b), .second, .val (.double p), .second, .val (.double r), .second, .val (.double f), .second, .val (.long (a + b)), .second, .val (.long (((2 : Int64) * a) * b)), .second, .val (.double g), .second, .val (.long ((((2 : Int64) * a) * b) / (a + b))), .second, .val (.long ((((2 : Int64) * a) * b) % (a + b))), .second, .val (.int (1 : Int32)), .unset, .unset]) rfl (pc' := 135) rfl) ?_
      refine OG.trans (OG.goto C at_135 (by decide) (pc' := 165) (by decide)) ?_
      exact OG.refl
    · refine OG.trans (OG.ifYes C at_116 (feqL hc).2 (by decide) (pc' := 138) (by decide)) ?_
      refine OG.trans (OG.lload C at_138 rfl (pc' := 140) rfl) ?_
      refine OG.trans (OG.l2d C at_140 (pc' := 141) rfl) ?_
      refine OG.trans (OG.dload C at_141 rfl (pc' := 143) rfl) ?_
      refine OG.trans (OG.dcmp C at_143 (pc' := 144) rfl) ?_
      refine OG.trans (OG.ifNo C at_144 ((if0 _ _).trans (tlt (k6 hc).1).2.1) (pc' := 147) rfl) ?_
      refine OG.trans (OG.dload C at_147 rfl (pc' := 149) rfl) ?_
      refine OG.trans (OG.lload C at_149 rfl (pc' := 151) rfl) ?_
      refine OG.trans (OG.lconst C at_151 (z := (1 : Int64)) rfl (pc' := 152) rfl) ?_
      refine OG.trans (OG.ladd C at_152 (pc' := 153) rfl) ?_
      refine OG.trans (OG.l2d C at_153 (pc' := 154) rfl) ?_
      refine OG.trans (OG.dcmp C at_154 (pc' := 155) rfl) ?_
      refine OG.trans (OG.ifNo C at_155 ((if0 _ _).trans (tlt (k6 hc).2).2.1) (pc' := 158) rfl) ?_
      refine OG.trans (OG.iconst C at_158 (z := (1 : Int32)) rfl (pc' := 159) rfl) ?_
      refine OG.trans (OG.goto C at_159 (by decide) (pc' := 163) (by decide)) ?_
      refine OG.trans (OG.istore C at_163 (ls' := #[.val (.int x0), .val (.int x1), .val (.long a), .second, .val (.long b), .second, .val (.double p), .second, .val (.double r), .second, .val (.double f), .second, .val (.long (a + b)), .second, .val (.long (((2 : Int64) * a) * b)), .second, .val (.double g), .second, .val (.long ((((2 : Int64) * a) * b) / (a + b))), .second, .val (.long ((((2 : Int64) * a) * b) % (a + b))), .second, .val (.int (1 : Int32)), .unset, .unset]) rfl (pc' := 165) rfl) ?_
      exact OG.refl
    refine OG.ow (OG.dload C at_165 rfl (pc' := 167) rfl) ?_
    refine OG.ow (OG.lload C at_167 rfl (pc' := 169) rfl) ?_
    refine OG.ow (OG.l2d C at_169 (pc' := 170) rfl) ?_
    refine OG.ow (OG.lload C at_170 rfl (pc' := 172) rfl) ?_
    refine OG.ow (OG.l2d C at_172 (pc' := 173) rfl) ?_
    refine OG.ow (OG.ddiv C (by rw [gh1]; exact k2) at_173 (pc' := 174) rfl) ?_
    refine OG.ow (OG.ldcD C (w1 hw) at_174 (pc' := 177) rfl) ?_
    refine OG.ow (OG.ddiv C (by rw [gh1, ghh]; exact k3) at_177 (pc' := 178) rfl) ?_
    refine OG.ow (OG.dcmp C at_178 (pc' := 179) rfl) ?_
    refine OG.ow (OG.ifNo C at_179 ((if0 _ _).trans (teq (by rw [gh1, ghh]; exact k4)).2) (pc' := 182) rfl) ?_
    refine OG.ow (OG.iconst C at_182 (z := (1 : Int32)) rfl (pc' := 183) rfl) ?_
    refine OG.ow (OG.goto C at_183 (by decide) (pc' := 187) (by decide)) ?_
    refine OG.ow (OG.istore C at_187 (ls' := #[.val (.int x0), .val (.int x1), .val (.long a), .second, .val (.long b), .second, .val (.double p), .second, .val (.double r), .second, .val (.double f), .second, .val (.long (a + b)), .second, .val (.long (((2 : Int64) * a) * b)), .second, .val (.double g), .second, .val (.long ((((2 : Int64) * a) * b) / (a + b))), .second, .val (.long ((((2 : Int64) * a) * b) % (a + b))), .second, .val (.int (1 : Int32)), .val (.int (1 : Int32)), .unset]) rfl (pc' := 189) rfl) ?_
    refine OG.ow (OG.lloadN C at_189 rfl (pc' := 190) rfl) ?_
    refine OG.ow (OG.lload C at_190 rfl (pc' := 192) rfl) ?_
    refine OG.ow (OG.callS C (w27 hw) (w28 hw) (w29 hw) (w30 hw) (by decide) (b5 hw a b) at_192 pd_3 rfl (argsL := [(.long a), (.long b)]) (rest := []) rfl rfl (W := 0) rfl (by decide) (by decide) (pc' := 195) rfl) ?_
    refine OG.ow (OG.l2d C at_195 (pc' := 196) rfl) ?_
    refine OG.ow (OG.dload C at_196 rfl (pc' := 198) rfl) ?_
    refine OG.ow (OG.dcmp C at_198 (pc' := 199) rfl) ?_
    refine OG.ow (OG.ifNo C at_199 ((if0 _ _).trans (flt (k7 _ (own_mn hA hB).1 (own_mn hA hB).2.1 (own_mn hA hB).2.2)).2.2.1) (pc' := 202) rfl) ?_
    refine OG.ow (OG.dload C at_202 rfl (pc' := 204) rfl) ?_
    refine OG.ow (OG.lloadN C at_204 rfl (pc' := 205) rfl) ?_
    refine OG.ow (OG.lload C at_205 rfl (pc' := 207) rfl) ?_
    refine OG.ow (OG.callS C (w31 hw) (w32 hw) (w29 hw) (w33 hw) (by decide) (b6 hw a b) at_207 pd_3 rfl (argsL := [(.long a), (.long b)]) (rest := [(.double g)]) rfl rfl (W := 2) rfl (by decide) (by decide) (pc' := 210) rfl) ?_
    refine OG.ow (OG.l2d C at_210 (pc' := 211) rfl) ?_
    refine OG.ow (OG.dcmp C at_211 (pc' := 212) rfl) ?_
    refine OG.ow (OG.ifNo C at_212 ((if0 _ _).trans (flt (k8 _ (own_mx hA hB A2 B2).1 (own_mx hA hB A2 B2).2.1 (own_mx hA hB A2 B2).2.2)).2.2.1) (pc' := 215) rfl) ?_
    refine OG.ow (OG.iconst C at_215 (z := (1 : Int32)) rfl (pc' := 216) rfl) ?_
    refine OG.ow (OG.goto C at_216 (by decide) (pc' := 220) (by decide)) ?_
    refine OG.ow (OG.istore C at_220 (ls' := #[.val (.int x0), .val (.int x1), .val (.long a), .second, .val (.long b), .second, .val (.double p), .second, .val (.double r), .second, .val (.double f), .second, .val (.long (a + b)), .second, .val (.long (((2 : Int64) * a) * b)), .second, .val (.double g), .second, .val (.long ((((2 : Int64) * a) * b) / (a + b))), .second, .val (.long ((((2 : Int64) * a) * b) % (a + b))), .second, .val (.int (1 : Int32)), .val (.int (1 : Int32)), .val (.int (1 : Int32))]) rfl (pc' := 222) rfl) ?_
    refine OG.ow (OG.iload C at_222 rfl (pc' := 224) rfl) ?_
    refine OG.ow (OG.ifNo C at_224 ((if0 _ _).trans (feq (by decide : ¬ ((1 : Int32) = (0 : Int32)))).1) (pc' := 227) rfl) ?_
    refine OG.ow (OG.iload C at_227 rfl (pc' := 229) rfl) ?_
    refine OG.ow (OG.ifNo C at_229 ((if0 _ _).trans (feq (by decide : ¬ ((1 : Int32) = (0 : Int32)))).1) (pc' := 232) rfl) ?_
    refine OG.ow (OG.iload C at_232 rfl (pc' := 234) rfl) ?_
    refine OG.ow (OG.ifNo C at_234 ((if0 _ _).trans (feq (by decide : ¬ ((1 : Int32) = (0 : Int32)))).1) (pc' := 237) rfl) ?_
    refine OG.ow (OG.iconst C at_237 (z := (1 : Int32)) rfl (pc' := 238) rfl) ?_
    refine OG.ow (OG.goto C at_238 (by decide) (pc' := 242) (by decide)) ?_
    refine OW.retN (t := .boolean) C (by simp) at_242 (by decide) (by decide) ?_
    rfl
set_option maxRecDepth 65536 in
set_option maxHeartbeats 40000000 in
theorem comes_1 {Post : Tables → Env → Array Value → State → Outcome → State → Prop} (hpost : ∀ tb e args s v u, (limb_1_1.after args s (.returned v) u = true ∧ limb_1_2.after args s (.returned v) u = true ∧ True) → FrameEnd s (.returned v) u (Jvm.fieldLocs frame_1_writes args s ++ Jvm.arrayLocs frame_1_arrays args s ++ Jvm.staticLocs frame_1_statics s) 16 128 → Post tb e args s (.returned v) u) :
    ArmFor flags0 classFile x code maxLocals ret World_1 tables_1 room_1 Calls_1 rest_1 Pre_1 Post := by
  intro l hfl _ _ p e ha hc hk s m args below hf hA hF happ hP
  obtain ⟨hcalls, hrest, hpre⟩ := hP
  obtain ⟨-, -, -, hnamed, -, -, -, hat⟩ := (Spec.applies_iff hf).mp happ
  obtain ⟨hg, hn⟩ := and_e (Cond.before_iff.mp (show (Jvm.Cond.and given_1 narrow_1).before args s = true from hpre))
  obtain ⟨h1, q0⟩ := and_e hg
  obtain ⟨k0, q1⟩ := and_e q0
  obtain ⟨u0, u1, rfl⟩ : ∃ u0 u1 : Value, args = #[u0, u1] := by
    have hs : args.size = 2 := by simpa [Cond.value, given_1] using h1
    obtain ⟨L⟩ := args
    match L, hs with
    | [u0, u1], _ => exact ⟨u0, u1, rfl⟩
  have hw : HW #[u0, u1] s := fun d (hd : d ∈ tables_1) => atoms_spec (ws := Jvm.Cond.code x code maxLocals ret :: tables_1) hat d (List.mem_cons_of_mem _ hd)
  have hfit : Fit s := fun {y c} hc i hi => by
    obtain ⟨ha, rfl⟩ := Array.getElem?_eq_some_iff.mp hc
    have q := List.all_eq_true.mp ((Array.all_eq_true_iff_forall_mem.mp hF) _ (Array.getElem_mem ha)) i (List.mem_range.mpr hi)
    simpa [Array.getElem?_eq_getElem hi] using q
  obtain ⟨i0, e0⟩ := is_v k0
  obtain rfl : u0 = (.int i0) := Option.some.inj e0
  obtain ⟨i1, e1⟩ := is_v q1
  obtain rfl : u1 = (.int i1) := Option.some.inj e1
  obtain ⟨n, o, h1, h2, h3, _, L, rfl, ⟨hv, N⟩, hq⟩ := b0 (l := l) hw i0 i1 (Nat.le_refl _) (n0 := s.heap.size) (h := s.heap) tables_1 p e ha hc hk s m _ below hf ((Spec.applies_iff_loose hf).mp happ).1 ⟨rfl, State.Warmed39.refl s, rfl⟩ trivial
  subst hv
  refine ⟨n, _, h1, h2, h3, hpost _ _ _ _ _ _ ⟨Cond.after_iff.mpr rfl, Cond.after_iff.mpr (eq_i res_at (Term.int_eval (1)) rfl), trivial⟩ ⟨hq.1, hq.2.1, (hq.2.2.sift fun y hy => Or.inr (N y hy)).mono (by decide) (by decide)⟩⟩
theorem main_1_1 : Claimed_1_1 := comes_1 fun _ _ _ _ _ _ h hF => ⟨h.1, hF⟩
theorem main_1_2 : Claimed_1_2 := comes_1 fun _ _ _ _ _ _ h hF => ⟨h.2.1, hF⟩
end Jvm.Pilot.@@N@@
namespace Jvm.Pilot.@@N@@
open Jvm Jvm.ClassFile Sem Op Lib Jvm.Free Jvm.Stand Jvm.Pilot.@@N@@.Jvm.D
/-! MADE BY PROGRAM (witnessworld.py) out of the Statement's table words and the real class files: 11 classes; the members and pool entries that the words name. The judged class is class 1, her method 1. -/
namespace start1
open Jvm.ClassFile
def u (s : String) : CpInfo := .utf8 (stringToUtf16 s)
/-- a pool by its gaps: so many unusable entries, then the entry; so many at the end -/
def gap : Nat → List CpInfo → List CpInfo
  | 0, r => r
  | n + 1, r => .unusable :: gap n r
def poolList (es : List (Nat × CpInfo)) (last : Nat) : List CpInfo := es.foldr (fun e r => gap e.1 (e.2 :: r)) (gap last [])
def pool (es : List (Nat × CpInfo)) (last : Nat) : Array CpInfo := ⟨poolList es last⟩
def fileOf (pool : Array CpInfo) (this : Nat) (attrs : Array Attribute := #[]) (ms : Array MethodInfo := #[]) (fl : Nat := 33) (sup : Nat := 0) (ifs : Array Nat := #[]) (fds : Array FieldInfo := #[]) : ClassFile where
  minorVersion := 0
  majorVersion := 65
  constantPool := pool
  accessFlags := fl
  thisClass := this
  superClass := sup
  interfaces := ifs
  fields := fds
  methods := ms
  attributes := attrs
def plain (name : String) (sup : Option ClassId) : Class where
  name := name
  kind := .ordinary
  loader := none
  accessFlags := 33
  super := sup
  interfaces := #[]
  cf := none
  fields := #[]
  methods := #[]
  instanceTypes := #[]
  staticTypes := #[]
  resolved := #[]
  callSites := []
  init := .initialized
  statics := none
  mirror := none

def pool0 : Array CpInfo := pool [(5, u "<init>"), (0, u "()V"), (1, .class_ 10), (1, u "java/lang/Object")] 113

def k0c0 : Code := { maxStack := 0, maxLocals := 1, code := object_method_1_code, exceptionTable := #[], attributes := #[] }
def k0m0 : Method := { name := "<init>", desc := "()V", sig := { parameters := [], returnType := none }, accessFlags := 1, code := some k0c0 }
/-- java/lang/Object -/
def k0 : Class := { plain "java/lang/Object" none with
  accessFlags := 33
  interfaces := #[]
  cf := some (fileOf pool0 8 #[] #[{ accessFlags := 1, nameIndex := 5, descriptorIndex := 6, attributes := #[] }] 33 0 #[] #[])
  fields := #[]
  methods := #[k0m0]
  instanceTypes := #[]
  staticTypes := #[]
  resolved := Array.replicate 124 none
  statics := none }

def pool1 : Array CpInfo := pool [(2, .class_ 4), (1, u "java/lang/Object"), (0, u "<init>"), (0, u "()V"), (0, .integer 2147483647), (0, .double 4652218415073722368), (1, .class_ 11), (0, u "com/example/gleaner/gleaner/text/ExtractionScore"), (0, .methodref 10 13), (0, .nameAndType 5 14), (0, u "(DD)V"), (0, .methodref 10 16), (0, .nameAndType 17 18), (0, u "f1"), (0, u "()D"), (0, .long 2), (1, .methodref 22 23), (0, .class_ 24), (0, .nameAndType 25 26), (0, u "java/lang/Math"), (0, u "min"), (0, u "(JJ)J"), (0, .methodref 22 28), (0, .nameAndType 29 26), (0, u "max"), (0, .class_ 31), (0, u "com/example/gleaner/gleaner/text/ExtractionScoreF1PinLaw"), (2, u "law"), (0, u "(II)Z")] 3

def k1m0 : Method := { name := "<init>", desc := "()V", sig := { parameters := [], returnType := none }, accessFlags := 1, code := none }
def k1c1 : Code := { maxStack := 6, maxLocals := 25, code := code, exceptionTable := #[], attributes := #[] }
def k1m1 : Method := { name := "law", desc := "(II)Z", sig := { parameters := [.int, .int], returnType := some .boolean }, accessFlags := 9, code := some k1c1 }
/-- com/example/gleaner/gleaner/text/ExtractionScoreF1PinLaw -/
def k1 : Class := { plain "com/example/gleaner/gleaner/text/ExtractionScoreF1PinLaw" (some 0) with
  accessFlags := 49
  interfaces := #[]
  cf := some (fileOf pool1 30 #[] #[{ accessFlags := 1, nameIndex := 5, descriptorIndex := 6, attributes := #[] }, { accessFlags := 9, nameIndex := 34, descriptorIndex := 35, attributes := #[] }] 49 2 #[] #[])
  fields := #[]
  methods := #[k1m0, k1m1]
  instanceTypes := #[]
  staticTypes := #[]
  resolved := Array.replicate 39 none
  statics := none }

def pool2 : Array CpInfo := pool [(1, .methodref 2 3), (0, .class_ 4), (0, .nameAndType 5 6), (0, u "java/lang/Object"), (0, u "<init>"), (0, u "()V"), (0, .class_ 8), (0, u "java/lang/Record")] 13

def k2c0 : Code := { maxStack := 1, maxLocals := 1, code := jdk_30_method_1_code, exceptionTable := #[], attributes := #[] }
def k2m0 : Method := { name := "<init>", desc := "()V", sig := { parameters := [], returnType := none }, accessFlags := 4, code := some k2c0 }
/-- java/lang/Record -/
def k2 : Class := { plain "java/lang/Record" (some 0) with
  accessFlags := 1057
  interfaces := #[]
  cf := some (fileOf pool2 7 #[] #[{ accessFlags := 4, nameIndex := 5, descriptorIndex := 6, attributes := #[] }] 1057 2 #[] #[])
  fields := #[]
  methods := #[k2m0]
  instanceTypes := #[]
  staticTypes := #[]
  resolved := Array.replicate 22 none
  statics := none }

def pool3 : Array CpInfo := pool [(1, .methodref 2 3), (0, .class_ 4), (0, .nameAndType 5 6), (0, u "java/lang/Record"), (0, u "<init>"), (0, u "()V"), (0, .fieldref 8 9), (0, .class_ 10), (0, .nameAndType 11 12), (0, u "com/example/gleaner/gleaner/text/ExtractionScore"), (0, u "precision"), (0, u "D"), (0, .fieldref 8 14), (0, .nameAndType 15 12), (0, u "recall"), (0, .double 4611686018427387904), (13, u "(DD)V"), (3, u "f1"), (0, u "()D")] 25

def k3c0 : Code := { maxStack := 3, maxLocals := 5, code := prog_19_method_1_code, exceptionTable := #[], attributes := #[] }
def k3m0 : Method := { name := "<init>", desc := "(DD)V", sig := { parameters := [.double, .double], returnType := none }, accessFlags := 1, code := some k3c0 }
def k3c1 : Code := { maxStack := 4, maxLocals := 3, code := prog_19_method_2_code, exceptionTable := #[], attributes := #[] }
def k3m1 : Method := { name := "f1", desc := "()D", sig := { parameters := [], returnType := some .double }, accessFlags := 1, code := some k3c1 }
/-- com/example/gleaner/gleaner/text/ExtractionScore -/
def k3 : Class := { plain "com/example/gleaner/gleaner/text/ExtractionScore" (some 2) with
  accessFlags := 49
  interfaces := #[]
  cf := some (fileOf pool3 8 #[] #[{ accessFlags := 1, nameIndex := 5, descriptorIndex := 30, attributes := #[] }, { accessFlags := 1, nameIndex := 34, descriptorIndex := 35, attributes := #[] }] 49 2 #[] #[{ accessFlags := 18, nameIndex := 11, descriptorIndex := 12, attributes := #[] }, { accessFlags := 18, nameIndex := 15, descriptorIndex := 12, attributes := #[] }])
  fields := #[{ name := "precision", type := .double, accessFlags := 18, slot := 0, constantValue := 0 }, { name := "recall", type := .double, accessFlags := 18, slot := 1, constantValue := 0 }]
  methods := #[k3m0, k3m1]
  instanceTypes := #[.double, .double]
  staticTypes := #[]
  resolved := Array.replicate 61 none
  statics := none }

def pool4 : Array CpInfo := pool [(1, .class_ 2), (0, u "java/lang/Math"), (1, .class_ 6), (1, u "java/lang/Object"), (0, u "<init>"), (0, u "()V"), (89, .class_ 100), (1, u "java/lang/Math$RandomNumberGeneratorHolder"), (20, u "(JJ)J"), (50, u "negativeZeroFloatBits"), (0, u "J"), (2, u "negativeZeroDoubleBits"), (21, u "max"), (2, u "min"), (43, u "$assertionsDisabled"), (0, u "Z"), (91, u "twoToTheDoubleScaleDown"), (0, u "D"), (4, u "twoToTheDoubleScaleUp"), (9, u "E"), (3, u "PI"), (2, u "TAU"), (2, u "DEGREES_TO_RADIANS"), (0, u "RADIANS_TO_DEGREES")] 94

def k4m0 : Method := { name := "<init>", desc := "()V", sig := { parameters := [], returnType := none }, accessFlags := 2, code := none }
def k4c1 : Code := { maxStack := 4, maxLocals := 4, code := jdk_29_method_66_code, exceptionTable := #[], attributes := #[] }
def k4m1 : Method := { name := "max", desc := "(JJ)J", sig := { parameters := [.long, .long], returnType := some .long }, accessFlags := 9, code := some k4c1 }
def k4c2 : Code := { maxStack := 4, maxLocals := 4, code := jdk_29_method_70_code, exceptionTable := #[], attributes := #[] }
def k4m2 : Method := { name := "min", desc := "(JJ)J", sig := { parameters := [.long, .long], returnType := some .long }, accessFlags := 9, code := some k4c2 }
/-- java/lang/Math -/
def k4 : Class := { plain "java/lang/Math" (some 0) with
  accessFlags := 49
  interfaces := #[]
  cf := some (fileOf pool4 1 #[.nestMembers #[98]] #[{ accessFlags := 2, nameIndex := 7, descriptorIndex := 8, attributes := #[] }, { accessFlags := 9, nameIndex := 198, descriptorIndex := 121, attributes := #[] }, { accessFlags := 9, nameIndex := 201, descriptorIndex := 121, attributes := #[] }] 49 4 #[] #[{ accessFlags := 25, nameIndex := 354, descriptorIndex := 339, attributes := #[] }, { accessFlags := 25, nameIndex := 358, descriptorIndex := 339, attributes := #[] }, { accessFlags := 25, nameIndex := 361, descriptorIndex := 339, attributes := #[] }, { accessFlags := 26, nameIndex := 364, descriptorIndex := 339, attributes := #[] }, { accessFlags := 26, nameIndex := 365, descriptorIndex := 339, attributes := #[] }, { accessFlags := 26, nameIndex := 172, descriptorIndex := 173, attributes := #[] }, { accessFlags := 26, nameIndex := 176, descriptorIndex := 173, attributes := #[] }, { accessFlags := 8, nameIndex := 344, descriptorIndex := 339, attributes := #[] }, { accessFlags := 8, nameIndex := 338, descriptorIndex := 339, attributes := #[] }, { accessFlags := 4120, nameIndex := 245, descriptorIndex := 246, attributes := #[] }])
  fields := #[{ name := "E", type := .double, accessFlags := 25, slot := 0, constantValue := 0 }, { name := "PI", type := .double, accessFlags := 25, slot := 1, constantValue := 0 }, { name := "TAU", type := .double, accessFlags := 25, slot := 2, constantValue := 0 }, { name := "DEGREES_TO_RADIANS", type := .double, accessFlags := 26, slot := 3, constantValue := 0 }, { name := "RADIANS_TO_DEGREES", type := .double, accessFlags := 26, slot := 4, constantValue := 0 }, { name := "negativeZeroFloatBits", type := .long, accessFlags := 26, slot := 5, constantValue := 0 }, { name := "negativeZeroDoubleBits", type := .long, accessFlags := 26, slot := 6, constantValue := 0 }, { name := "twoToTheDoubleScaleUp", type := .double, accessFlags := 8, slot := 7, constantValue := 0 }, { name := "twoToTheDoubleScaleDown", type := .double, accessFlags := 8, slot := 8, constantValue := 0 }, { name := "$assertionsDisabled", type := .boolean, accessFlags := 4120, slot := 9, constantValue := 0 }]
  methods := #[k4m0, k4m1, k4m2]
  instanceTypes := #[]
  staticTypes := #[.double, .double, .double, .double, .double, .long, .long, .double, .double, .boolean]
  resolved := Array.replicate 460 none
  statics := none }

def pool5 : Array CpInfo := pool [(1, u "java/lang/Cloneable"), (0, .class_ 1), (0, u "java/lang/Object"), (0, .class_ 3)] 3

/-- java/lang/Cloneable -/
def k5 : Class := { plain "java/lang/Cloneable" (some 0) with
  accessFlags := 1537
  interfaces := #[]
  cf := some (fileOf pool5 2 #[] #[] 1537 4 #[] #[])
  fields := #[]
  methods := #[]
  instanceTypes := #[]
  staticTypes := #[]
  resolved := Array.replicate 8 none
  statics := none }

def pool6 : Array CpInfo := pool [(1, u "java/io/Serializable"), (0, .class_ 1), (0, u "java/lang/Object"), (0, .class_ 3)] 3

/-- java/io/Serializable -/
def k6 : Class := { plain "java/io/Serializable" (some 0) with
  accessFlags := 1537
  interfaces := #[]
  cf := some (fileOf pool6 2 #[] #[] 1537 4 #[] #[])
  fields := #[]
  methods := #[]
  instanceTypes := #[]
  staticTypes := #[]
  resolved := Array.replicate 8 none
  statics := none }

/-- the primitive byte -/
def k7 : Class := { plain "byte" none with kind := .primitive 'B', accessFlags := 0x411 }
/-- [B -/
def k8 : Class := { plain "[B" (some 0) with kind := .array 7 .byte, interfaces := #[5, 6], accessFlags := 1041 }

/-- the primitive int -/
def k9 : Class := { plain "int" none with kind := .primitive 'I', accessFlags := 0x411 }
/-- [I -/
def k10 : Class := { plain "[I" (some 0) with kind := .array 9 .int, interfaces := #[5, 6], accessFlags := 1041 }

def heap : Heap := #[]
def classes : Array Class := #[k0, k1, k2, k3, k4, k5, k6, k7, k8, k9, k10]
def interned : List (Array UInt16 × Addr) := []
def slotsUsed : Nat := 0
def theMethod : MethodId := ⟨1, 1⟩
def args0 : Array Value := #[.int 5, .int 3]
def aboutOver (below : List Frame) : State where
  vm := { classes := classes, interned := interned.toArray }
  heap := heap
  slotsUsed := slotsUsed
  threads := #[{ frames := .invoking theMethod args0 :: below }]
def below0 : List Frame := [.native { method := ⟨0, 0⟩, args := #[] }]
def about1 : State := aboutOver below0
def p0 : Program := .bare "" "" ""
def e0 : Env := launch0.env 0 0 0
theorem w_frames : about1.frames = Frame.invoking theMethod args0 :: below0 := rfl
set_option maxRecDepth 65536 in
theorem w_args : argsFit about1.vm theMethod args0 = true := by decide +kernel
set_option maxRecDepth 65536 in
theorem w_heap : heapFits about1 = true := by decide +kernel
set_option maxRecDepth 65536 in
theorem w_runnable : about1.curStatus? = some .runnable := by decide +kernel
set_option maxRecDepth 65536 in
theorem w_alone : about1.alone = true := by decide +kernel
set_option maxRecDepth 65536 in
theorem w_named : about1.methodNamed? x = some theMethod := by decide +kernel
set_option maxRecDepth 65536 in
theorem w_hears : about1.hears theMethod below0 = true := by decide +kernel
set_option maxRecDepth 65536 in
theorem w_ripe : about1.ripe theMethod args0 below0 = true := by decide +kernel
theorem w_running : about1.status = .running := rfl
set_option maxRecDepth 65536 in
theorem w_room : about1.hasRoom e0.platform room_1 = true :=
  launch0.hasRoom_least _ room_1 (by decide +kernel) (by decide +kernel) (by decide +kernel) (by decide +kernel) (by decide +kernel) (by decide +kernel)
theorem allAtoms_all (ts : List Jvm.Cond) (a : Array Jvm.Value) (st : Jvm.State) : (allAtoms ts).before a st = ts.all (fun c => c.before a st) := by
  induction ts with
  | nil => rfl
  | cons c t ih =>
    show (Jvm.Cond.and c (allAtoms t)).before a st = _
    rw [Jvm.Cond.before_and, ih, List.all_cons]
def words1 : List Jvm.Cond := Jvm.Cond.code x code maxLocals ret :: tables_1
/-- a 'code' word, met by the world's own term for the bytes: nothing is compared byte by byte -/
theorem code_word {y : MethodName} {bytes : ByteArray} {mx : Nat} {rt : Option FieldType} {a : Array Value} {s : State} {m : MethodId} {meth : Method} {c : Code} (h1 : s.methodNamed? y = some m) (h2 : s.vm.method? m = some meth) (h3 : meth.code = some c) (h4 : c.code = bytes)
    (h5 : (c.maxLocals == mx && c.exceptionTable.isEmpty && decide (c.maxStack ≤ mostOperands) && decide (meth.sig.returnType = rt) && !meth.locks && decide (parseMethodDescriptor y.desc = some meth.sig)) = true) : (Jvm.Cond.code y bytes mx rt).before a s = true := by
  simp only [Bool.and_eq_true, beq_iff_eq, Bool.not_eq_true', decide_eq_true_eq] at h5
  obtain ⟨⟨⟨⟨⟨g1, g2⟩, g3⟩, g4⟩, g5⟩, g6⟩ := h5
  simp [Cond.before, Cond.holds, Cond.value, h1, h2, h3, h4, g1, g2, g3, g4, g5, g6]
def isCode : Jvm.Cond → Bool
  | .code _ _ _ _ => true
  | _ => false
theorem all_split {L : List Jvm.Cond} {P : Jvm.Cond → Bool} (h1 : L.all (fun c => isCode c || P c) = true) (h2 : ∀ c ∈ L.filter isCode, P c = true) : L.all P = true := by
  refine List.all_eq_true.mpr fun c hc => ?_
  have h := List.all_eq_true.mp h1 c hc
  rcases Bool.eq_false_or_eq_true (isCode c) with hi | hi
  · exact h2 c (List.mem_filter.mpr ⟨hc, hi⟩)
  · simpa [hi] using h
set_option maxRecDepth 65536 in
theorem w_c0 : (Jvm.Cond.code x code maxLocals ret).before args0 about1 = true := code_word (m := ⟨1, 1⟩) (meth := k1m1) (c := k1c1) (by decide +kernel) rfl rfl rfl (by decide +kernel)
set_option maxRecDepth 65536 in
theorem w_c1 : (Jvm.Cond.code ({ cls := "com/example/gleaner/gleaner/text/ExtractionScore", name := "<init>", desc := "(DD)V" } : Jvm.MethodName) prog_19_method_1_code (5 : Nat) (Option.none : Option Jvm.ClassFile.FieldType)).before args0 about1 = true := code_word (m := ⟨3, 0⟩) (meth := k3m0) (c := k3c0) (by decide +kernel) rfl rfl rfl (by decide +kernel)
set_option maxRecDepth 65536 in
theorem w_c2 : (Jvm.Cond.code ({ cls := "java/lang/Record", name := "<init>", desc := "()V" } : Jvm.MethodName) jdk_30_method_1_code (1 : Nat) (Option.none : Option Jvm.ClassFile.FieldType)).before args0 about1 = true := code_word (m := ⟨2, 0⟩) (meth := k2m0) (c := k2c0) (by decide +kernel) rfl rfl rfl (by decide +kernel)
set_option maxRecDepth 65536 in
theorem w_c3 : (Jvm.Cond.code ({ cls := "java/lang/Object", name := "<init>", desc := "()V" } : Jvm.MethodName) object_method_1_code (1 : Nat) (Option.none : Option Jvm.ClassFile.FieldType)).before args0 about1 = true := code_word (m := ⟨0, 0⟩) (meth := k0m0) (c := k0c0) (by decide +kernel) rfl rfl rfl (by decide +kernel)
set_option maxRecDepth 65536 in
theorem w_c4 : (Jvm.Cond.code ({ cls := "com/example/gleaner/gleaner/text/ExtractionScore", name := "f1", desc := "()D" } : Jvm.MethodName) prog_19_method_2_code (3 : Nat) (Option.some Jvm.ClassFile.FieldType.double)).before args0 about1 = true := code_word (m := ⟨3, 1⟩) (meth := k3m1) (c := k3c1) (by decide +kernel) rfl rfl rfl (by decide +kernel)
set_option maxRecDepth 65536 in
theorem w_c5 : (Jvm.Cond.code ({ cls := "java/lang/Math", name := "min", desc := "(JJ)J" } : Jvm.MethodName) jdk_29_method_70_code (4 : Nat) (Option.some Jvm.ClassFile.FieldType.long)).before args0 about1 = true := code_word (m := ⟨4, 2⟩) (meth := k4m2) (c := k4c2) (by decide +kernel) rfl rfl rfl (by decide +kernel)
set_option maxRecDepth 65536 in
theorem w_c6 : (Jvm.Cond.code ({ cls := "java/lang/Math", name := "max", desc := "(JJ)J" } : Jvm.MethodName) jdk_29_method_66_code (4 : Nat) (Option.some Jvm.ClassFile.FieldType.long)).before args0 about1 = true := code_word (m := ⟨4, 1⟩) (meth := k4m1) (c := k4c1) (by decide +kernel) rfl rfl rfl (by decide +kernel)
def codes1 : List Jvm.Cond := [Jvm.Cond.code x code maxLocals ret, Jvm.Cond.code ({ cls := "com/example/gleaner/gleaner/text/ExtractionScore", name := "<init>", desc := "(DD)V" } : Jvm.MethodName) prog_19_method_1_code (5 : Nat) (Option.none : Option Jvm.ClassFile.FieldType), Jvm.Cond.code ({ cls := "java/lang/Record", name := "<init>", desc := "()V" } : Jvm.MethodName) jdk_30_method_1_code (1 : Nat) (Option.none : Option Jvm.ClassFile.FieldType), Jvm.Cond.code ({ cls := "java/lang/Object", name := "<init>", desc := "()V" } : Jvm.MethodName) object_method_1_code (1 : Nat) (Option.none : Option Jvm.ClassFile.FieldType), Jvm.Cond.code ({ cls := "com/example/gleaner/gleaner/text/ExtractionScore", name := "f1", desc := "()D" } : Jvm.MethodName) prog_19_method_2_code (3 : Nat) (Option.some Jvm.ClassFile.FieldType.double), Jvm.Cond.code ({ cls := "java/lang/Math", name := "min", desc := "(JJ)J" } : Jvm.MethodName) jdk_29_method_70_code (4 : Nat) (Option.some Jvm.ClassFile.FieldType.long), Jvm.Cond.code ({ cls := "java/lang/Math", name := "max", desc := "(JJ)J" } : Jvm.MethodName) jdk_29_method_66_code (4 : Nat) (Option.some Jvm.ClassFile.FieldType.long)]
set_option maxRecDepth 65536 in
theorem codes_eq : words1.filter isCode = codes1 := rfl
theorem w_codes : ∀ c ∈ words1.filter isCode, c.before args0 about1 = true := by
  rw [codes_eq]
  intro c hc
  simp only [codes1, List.mem_cons, List.not_mem_nil, or_false] at hc
  rcases hc with rfl | rfl | rfl | rfl | rfl | rfl | rfl
  · exact w_c0
  · exact w_c1
  · exact w_c2
  · exact w_c3
  · exact w_c4
  · exact w_c5
  · exact w_c6
set_option maxRecDepth 65536 in
theorem w_t1 : (words1.take 24).all (fun c => isCode c || c.before args0 about1) = true := by decide +kernel
set_option maxRecDepth 65536 in
theorem w_t2 : (words1.drop 24).all (fun c => isCode c || c.before args0 about1) = true := by decide +kernel
theorem w_tables : (allAtoms (Jvm.Cond.code x code maxLocals ret :: tables_1)).before args0 about1 = true := by
  rw [allAtoms_all]
  show words1.all (fun c => c.before args0 about1) = true
  refine all_split ?_ w_codes
  rw [← List.take_append_drop 24 words1, List.all_append, w_t1, w_t2]
  rfl
set_option maxRecDepth 65536 in
theorem w_case : (Jvm.Cond.and given_1 narrow_1).before args0 about1 = true := by decide +kernel
theorem w_applies : (headSpec (Jvm.Cond.code x code maxLocals ret :: tables_1) room_1).applies x e0.platform about1 = true :=
  (Spec.applies_iff w_frames).mpr ⟨w_running, w_runnable, w_alone, w_named, w_hears, w_ripe, w_room, w_tables⟩
theorem atStart : AtStart classFile x code maxLocals ret World_1 tables_1 room_1 Calls_1 rest_1 Pre_1 launch0 p0 e0 about1 theMethod args0 below0 :=
  ⟨lists_1, trivial, launch0.admits_env _ _ _, launch0.least_env, fairChoices_fair.cas, fairChoices_fair.clock, w_frames, w_args, w_heap, w_applies, trivial, trivial, w_case⟩
end start1
theorem witness_1 : WitnessClaimed_1 := ⟨start1.p0, start1.e0, start1.about1, start1.theMethod, start1.args0, start1.below0, start1.atStart⟩
end Jvm.Pilot.@@N@@
