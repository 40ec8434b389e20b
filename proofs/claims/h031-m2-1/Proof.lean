import JvmDerived
import JvmDerived.Pilot.@@N@@Statement
import JvmDerived.Pilot.@@N@@Code
set_option linter.unusedVariables false
set_option linter.unusedSimpArgs false
namespace Jvm.RoadKit
open Sem ClassFile Op Lib Jvm.Stand Jvm.Free Jvm.LawKit
section Own
variable {p : Program} {l : Launch} {e : Env} {R : Room} {s : State} {m : MethodId} {args : Array Value} {below : List Frame} {meth : Method} {c : Code} {Z : State} {a0 : Array Value}
/-- what a body's walk stands on -/
def OC (p : Program) (s : State) (m : MethodId) (meth : Method) (c : Code) (Z : State) (own nm : String) (bytes : ByteArray) (ml : Nat) (ret : Option FieldType) : Prop :=
  p.tables.exec = Jvm.exec ∧ c.code = bytes ∧ Z.Warmed39 s.vm ∧ s.vm.findClass own = some m.cls ∧ c.maxLocals = ml ∧ meth.sig.returnType = ret ∧ meth.locks = false ∧ meth.name = nm
/-- where the walk stands: the heap, what has been made, what has been written -/
def OS (p : Program) (l : Launch) (e : Env) (R : Room) (s : State) (m : MethodId) (args : Array Value) (below : List Frame) (meth : Method) (c : Code) (n0 : Nat) (h : Heap) (cl sl : Nat) (T : State) (locs : List Loc) : Prop :=
  Stand p l e R s m args below meth c T locs cl sl ∧ Fr n0 locs ∧ T.heap = h ∧ cl ≤ R.cells ∧ sl ≤ R.slots
/-- a run that leaves the heap as it is: from the frame g to the frame g' -/
def OG (p : Program) (l : Launch) (e : Env) (R : Room) (s : State) (m : MethodId) (args : Array Value) (below : List Frame) (meth : Method) (c : Code) (n0 : Nat) (h : Heap) (g g' : JFrame) : Prop :=
  ∀ T locs cl sl, OS p l e R s m args below meth c n0 h cl sl T locs →
    ∃ T' locs', OS p l e R s m args below meth c n0 h cl sl T' locs' ∧ ∀ target, Steps p.tables e below (T'.setTop g') target → Steps p.tables e below (T.setTop g) target
/-- what is left to run from the frame g: it returns, and Q holds of what it returns and of the heap -/
def OW (p : Program) (l : Launch) (e : Env) (R : Room) (s : State) (m : MethodId) (args : Array Value) (below : List Frame) (meth : Method) (c : Code) (n0 : Nat) (Q : Option Value → Heap → Prop) (K N : Nat) (h : Heap) (cl sl : Nat) (g : JFrame) : Prop :=
  ∀ T locs, OS p l e R s m args below meth c n0 h cl sl T locs →
    ∃ s₂ o, Steps p.tables e below (T.setTop g) s₂ ∧ s₂.status = .running ∧ Ended s₂ below o ∧ ∃ v L, o = .returned v ∧ (Q v s₂.heap ∧ Fr n0 L) ∧ FrameEnd s o s₂ L K N
variable {own nm : String} {bytes : ByteArray} {ml n0 K N : Nat} {ret : Option FieldType} {Q : Option Value → Heap → Prop} {h : Heap} {cl sl : Nat} {g g' g'' : JFrame} {pc pc' : Nat} {ls ls' : Array Slot} {st : List Value}
theorem OG.refl : OG p l e R s m args below meth c n0 h g g := fun T locs _ _ X => ⟨T, locs, X, fun _ k => k⟩
theorem OG.trans (A : OG p l e R s m args below meth c n0 h g g') (B : OG p l e R s m args below meth c n0 h g' g'') : OG p l e R s m args below meth c n0 h g g'' := fun T locs cl sl X => by
  obtain ⟨T1, L1, X1, k1⟩ := A T locs cl sl X
  obtain ⟨T2, L2, X2, k2⟩ := B T1 L1 cl sl X1
  exact ⟨T2, L2, X2, fun t k => k1 t (k2 t k)⟩
theorem OG.ow (A : OG p l e R s m args below meth c n0 h g g') (B : OW p l e R s m args below meth c n0 Q K N h cl sl g') : OW p l e R s m args below meth c n0 Q K N h cl sl g := fun T locs X => by
  obtain ⟨T1, L1, X1, k1⟩ := A T locs cl sl X
  obtain ⟨s₂, o, q, r⟩ := B T1 L1 X1
  exact ⟨s₂, o, k1 _ q, r⟩
theorem OG.cast (A : OG p l e R s m args below meth c n0 h g g') (q : g' = g'') : OG p l e R s m args below meth c n0 h g g'' := q ▸ A
theorem OW.cast (q : g = g') (A : OW p l e R s m args below meth c n0 Q K N h cl sl g') : OW p l e R s m args below meth c n0 Q K N h cl sl g := q ▸ A
theorem OW.more {cl' sl' : Nat} (A : OW p l e R s m args below meth c n0 Q K N h cl' sl' g) (q1 : cl ≤ cl') (q2 : sl ≤ sl') (q3 : cl' ≤ R.cells) (q4 : sl' ≤ R.slots) : OW p l e R s m args below meth c n0 Q K N h cl sl g := fun T locs X => A T locs ⟨X.1.more q1 q2, X.2.1, X.2.2.1, q3, q4⟩
/-- the two arms of a branch meet -/
theorem OG.ite {α : Type} {P : Prop} [Decidable P] {f : α → JFrame} {x y : α} (A : P → OG p l e R s m args below meth c n0 h g (f x)) (B : ¬ P → OG p l e R s m args below meth c n0 h g (f y)) : OG p l e R s m args below meth c n0 h g (f (if P then x else y)) := by
  by_cases q : P
  · rw [if_pos q]; exact A q
  · rw [if_neg q]; exact B q
theorem OG.of (k : ∀ (s' : State) T locs cl sl, Stand p l e R s' m args below meth c T locs cl sl → ∀ target, Steps p.tables e below (T.setTop g') target → Steps p.tables e below (T.setTop g) target) : OG p l e R s m args below meth c n0 h g g' :=
  fun T locs _ _ X => ⟨T, locs, X, k _ T locs _ _ X.1⟩
theorem OC.d (C : OC p s m meth c Z own nm bytes ml ret) {r : Except DecodeError (Instr × Nat)} (q : decode bytes pc = r) : decode c.code pc = r := by rw [C.2.1]; exact q
theorem own_fr {x z : Int32} (q : x = z) : mkF m pc ls (.int x :: st) = mkF m pc ls (.int z :: st) := by rw [q]
theorem OG.ite0 {P : Prop} [Decidable P] (A : P → OG p l e R s m args below meth c n0 h g g') (B : ¬ P → OG p l e R s m args below meth c n0 h g g') : OG p l e R s m args below meth c n0 h g g' := by
  by_cases q : P
  · exact A q
  · exact B q
theorem OG.ite2 {α β : Type} {P : Prop} [Decidable P] {f : α → β → JFrame} {x y : α} {x' y' : β} (A : P → OG p l e R s m args below meth c n0 h g (f x x')) (B : ¬ P → OG p l e R s m args below meth c n0 h g (f y y')) : OG p l e R s m args below meth c n0 h g (f (if P then x else y) (if P then x' else y')) := by
  by_cases q : P
  · rw [if_pos q, if_pos q]; exact A q
  · rw [if_neg q, if_neg q]; exact B q
theorem OG.iloadN (C : OC p s m meth c Z own nm bytes ml ret) {k : Fin 4} {v : Int32} (hd : decode bytes pc = .ok (.iload_n k, 1)) (hl : ls[k.val]? = some (.val (.int v))) (hp : pc + 1 = pc') : OG p l e R s m args below meth c n0 h (mkF m pc ls st) (mkF m pc' ls (.int v :: st)) := by
  subst hp
  exact OG.of fun s' T locs cl sl X target k => XS.iloadN X.here C.1 rfl (C.d hd) hl k
theorem OG.iload (C : OC p s m meth c Z own nm bytes ml ret) {k : Nat} {v : Int32} (hd : decode bytes pc = .ok (.iload k, 2)) (hl : ls[k]? = some (.val (.int v))) (hp : pc + 2 = pc') : OG p l e R s m args below meth c n0 h (mkF m pc ls st) (mkF m pc' ls (.int v :: st)) := by
  subst hp
  exact OG.of fun s' T locs cl sl X target k => XS.iload X.here C.1 rfl (C.d hd) hl k
theorem OG.lloadN (C : OC p s m meth c Z own nm bytes ml ret) {k : Fin 4} {v : Int64} (hd : decode bytes pc = .ok (.lload_n k, 1)) (hl : ls[k.val]? = some (.val (.long v))) (hp : pc + 1 = pc') : OG p l e R s m args below meth c n0 h (mkF m pc ls st) (mkF m pc' ls (.long v :: st)) := by
  subst hp
  exact OG.of fun s' T locs cl sl X target k => XS.lloadN X.here C.1 rfl (C.d hd) hl k
theorem OG.lload (C : OC p s m meth c Z own nm bytes ml ret) {k : Nat} {v : Int64} (hd : decode bytes pc = .ok (.lload k, 2)) (hl : ls[k]? = some (.val (.long v))) (hp : pc + 2 = pc') : OG p l e R s m args below meth c n0 h (mkF m pc ls st) (mkF m pc' ls (.long v :: st)) := by
  subst hp
  exact OG.of fun s' T locs cl sl X target k => XS.lload X.here C.1 rfl (C.d hd) hl k
theorem OG.aloadN (C : OC p s m meth c Z own nm bytes ml ret) {k : Fin 4} {v : Value} (hd : decode bytes pc = .ok (.aload_n k, 1)) (hl : ls[k.val]? = some (.val v)) (hv : v.isRef = true) (hp : pc + 1 = pc') : OG p l e R s m args below meth c n0 h (mkF m pc ls st) (mkF m pc' ls (v :: st)) := by
  subst hp
  exact OG.of fun s' T locs cl sl X target k => XS.aloadN X.here C.1 rfl (C.d hd) hl hv k
theorem OG.aload (C : OC p s m meth c Z own nm bytes ml ret) {k : Nat} {v : Value} (hd : decode bytes pc = .ok (.aload k, 2)) (hl : ls[k]? = some (.val v)) (hv : v.isRef = true) (hp : pc + 2 = pc') : OG p l e R s m args below meth c n0 h (mkF m pc ls st) (mkF m pc' ls (v :: st)) := by
  subst hp
  exact OG.of fun s' T locs cl sl X target k => XS.aload X.here C.1 rfl (C.d hd) hl hv k
theorem OG.istoreN (C : OC p s m meth c Z own nm bytes ml ret) {k : Fin 4} {v : Int32} (hd : decode bytes pc = .ok (.istore_n k, 1)) (hl : storeLocals ls k.val (.int v) = some ls') (hp : pc + 1 = pc') : OG p l e R s m args below meth c n0 h (mkF m pc ls (.int v :: st)) (mkF m pc' ls' st) := by
  subst hp
  exact OG.of fun s' T locs cl sl X target k => XS.istoreN X.here C.1 rfl (C.d hd) rfl hl k
theorem OG.istore (C : OC p s m meth c Z own nm bytes ml ret) {k : Nat} {v : Int32} (hd : decode bytes pc = .ok (.istore k, 2)) (hl : storeLocals ls k (.int v) = some ls') (hp : pc + 2 = pc') : OG p l e R s m args below meth c n0 h (mkF m pc ls (.int v :: st)) (mkF m pc' ls' st) := by
  subst hp
  exact OG.of fun s' T locs cl sl X target k => XS.istore X.here C.1 rfl (C.d hd) rfl hl k
theorem OG.lstoreN (C : OC p s m meth c Z own nm bytes ml ret) {k : Fin 4} {v : Int64} (hd : decode bytes pc = .ok (.lstore_n k, 1)) (hl : storeLocals ls k.val (.long v) = some ls') (hp : pc + 1 = pc') : OG p l e R s m args below meth c n0 h (mkF m pc ls (.long v :: st)) (mkF m pc' ls' st) := by
  subst hp
  exact OG.of fun s' T locs cl sl X target k => XS.lstoreN X.here C.1 rfl (C.d hd) rfl hl k
theorem OG.lstore (C : OC p s m meth c Z own nm bytes ml ret) {k : Nat} {v : Int64} (hd : decode bytes pc = .ok (.lstore k, 2)) (hl : storeLocals ls k (.long v) = some ls') (hp : pc + 2 = pc') : OG p l e R s m args below meth c n0 h (mkF m pc ls (.long v :: st)) (mkF m pc' ls' st) := by
  subst hp
  exact OG.of fun s' T locs cl sl X target k => XS.lstore X.here C.1 rfl (C.d hd) rfl hl k
theorem OG.astoreN (C : OC p s m meth c Z own nm bytes ml ret) {k : Fin 4} {v : Value} (hd : decode bytes pc = .ok (.astore_n k, 1)) (hv : v.isRef = true) (hl : storeLocals ls k.val v = some ls') (hp : pc + 1 = pc') : OG p l e R s m args below meth c n0 h (mkF m pc ls (v :: st)) (mkF m pc' ls' st) := by
  subst hp
  exact OG.of fun s' T locs cl sl X target k => XS.astoreN X.here C.1 rfl (C.d hd) rfl hv hl k
theorem OG.astore (C : OC p s m meth c Z own nm bytes ml ret) {k : Nat} {v : Value} (hd : decode bytes pc = .ok (.astore k, 2)) (hv : v.isRef = true) (hl : storeLocals ls k v = some ls') (hp : pc + 2 = pc') : OG p l e R s m args below meth c n0 h (mkF m pc ls (v :: st)) (mkF m pc' ls' st) := by
  subst hp
  exact OG.of fun s' T locs cl sl X target k => XS.astore X.here C.1 rfl (C.d hd) rfl hv hl k
theorem OG.iconst (C : OC p s m meth c Z own nm bytes ml ret) {i : Int} {z : Int32} (hd : decode bytes pc = .ok (.iconst i, 1)) (hz : Int32.ofInt i = z) (hp : pc + 1 = pc') : OG p l e R s m args below meth c n0 h (mkF m pc ls st) (mkF m pc' ls (.int z :: st)) := by
  subst hp hz
  exact OG.of fun s' T locs cl sl X target k => XS.iconst X.here C.1 rfl (C.d hd)  k
theorem OG.bipush (C : OC p s m meth c Z own nm bytes ml ret) {i : Int} {z : Int32} (hd : decode bytes pc = .ok (.bipush i, 2)) (hz : (Int8.ofInt i).toInt32 = z) (hp : pc + 2 = pc') : OG p l e R s m args below meth c n0 h (mkF m pc ls st) (mkF m pc' ls (.int z :: st)) := by
  subst hp hz
  exact OG.of fun s' T locs cl sl X target k => XS.bipush X.here C.1 rfl (C.d hd)  k
theorem OG.sipush (C : OC p s m meth c Z own nm bytes ml ret) {i : Int} {z : Int32} (hd : decode bytes pc = .ok (.sipush i, 3)) (hz : (Int16.ofInt i).toInt32 = z) (hp : pc + 3 = pc') : OG p l e R s m args below meth c n0 h (mkF m pc ls st) (mkF m pc' ls (.int z :: st)) := by
  subst hp hz
  exact OG.of fun s' T locs cl sl X target k => XS.sipush X.here C.1 rfl (C.d hd)  k
theorem OG.lconst (C : OC p s m meth c Z own nm bytes ml ret) {i : Fin 2} {z : Int64} (hd : decode bytes pc = .ok (.lconst i, 1)) (hz : Int64.ofNat i = z) (hp : pc + 1 = pc') : OG p l e R s m args below meth c n0 h (mkF m pc ls st) (mkF m pc' ls (.long z :: st)) := by
  subst hp hz
  exact OG.of fun s' T locs cl sl X target k => XS.lconst X.here C.1 rfl (C.d hd)  k
theorem OG.aconst_null (C : OC p s m meth c Z own nm bytes ml ret)  (hd : decode bytes pc = .ok (.aconst_null, 1))  (hp : pc + 1 = pc') : OG p l e R s m args below meth c n0 h (mkF m pc ls st) (mkF m pc' ls (.null :: st)) := by
  subst hp
  exact OG.of fun s' T locs cl sl X target k => XS.aconstNull X.here C.1 rfl (C.d hd)  k
theorem OG.iadd (C : OC p s m meth c Z own nm bytes ml ret) {x y : Int32} (hd : decode bytes pc = .ok (.iadd, 1))  (hp : pc + 1 = pc') : OG p l e R s m args below meth c n0 h (mkF m pc ls (.int y :: .int x :: st)) (mkF m pc' ls (.int (x + y) :: st)) := by
  subst hp
  exact OG.of fun s' T locs cl sl X target k => XS.iadd X.here C.1 rfl (C.d hd) rfl k
theorem OG.ladd (C : OC p s m meth c Z own nm bytes ml ret) {x y : Int64} (hd : decode bytes pc = .ok (.ladd, 1))  (hp : pc + 1 = pc') : OG p l e R s m args below meth c n0 h (mkF m pc ls (.long y :: .long x :: st)) (mkF m pc' ls (.long (x + y) :: st)) := by
  subst hp
  exact OG.of fun s' T locs cl sl X target k => XS.ladd X.here C.1 rfl (C.d hd) rfl k
theorem OG.isub (C : OC p s m meth c Z own nm bytes ml ret) {x y : Int32} (hd : decode bytes pc = .ok (.isub, 1))  (hp : pc + 1 = pc') : OG p l e R s m args below meth c n0 h (mkF m pc ls (.int y :: .int x :: st)) (mkF m pc' ls (.int (x - y) :: st)) := by
  subst hp
  exact OG.of fun s' T locs cl sl X target k => XS.isub X.here C.1 rfl (C.d hd) rfl k
theorem OG.lsub (C : OC p s m meth c Z own nm bytes ml ret) {x y : Int64} (hd : decode bytes pc = .ok (.lsub, 1))  (hp : pc + 1 = pc') : OG p l e R s m args below meth c n0 h (mkF m pc ls (.long y :: .long x :: st)) (mkF m pc' ls (.long (x - y) :: st)) := by
  subst hp
  exact OG.of fun s' T locs cl sl X target k => XS.lsub X.here C.1 rfl (C.d hd) rfl k
theorem OG.imul (C : OC p s m meth c Z own nm bytes ml ret) {x y : Int32} (hd : decode bytes pc = .ok (.imul, 1))  (hp : pc + 1 = pc') : OG p l e R s m args below meth c n0 h (mkF m pc ls (.int y :: .int x :: st)) (mkF m pc' ls (.int (x * y) :: st)) := by
  subst hp
  exact OG.of fun s' T locs cl sl X target k => XS.imul X.here C.1 rfl (C.d hd) rfl k
theorem OG.lmul (C : OC p s m meth c Z own nm bytes ml ret) {x y : Int64} (hd : decode bytes pc = .ok (.lmul, 1))  (hp : pc + 1 = pc') : OG p l e R s m args below meth c n0 h (mkF m pc ls (.long y :: .long x :: st)) (mkF m pc' ls (.long (x * y) :: st)) := by
  subst hp
  exact OG.of fun s' T locs cl sl X target k => XS.lmul X.here C.1 rfl (C.d hd) rfl k
theorem OG.iand (C : OC p s m meth c Z own nm bytes ml ret) {x y : Int32} (hd : decode bytes pc = .ok (.iand, 1))  (hp : pc + 1 = pc') : OG p l e R s m args below meth c n0 h (mkF m pc ls (.int y :: .int x :: st)) (mkF m pc' ls (.int (x &&& y) :: st)) := by
  subst hp
  exact OG.of fun s' T locs cl sl X target k => XS.iand X.here C.1 rfl (C.d hd) rfl k
theorem OG.land (C : OC p s m meth c Z own nm bytes ml ret) {x y : Int64} (hd : decode bytes pc = .ok (.land, 1))  (hp : pc + 1 = pc') : OG p l e R s m args below meth c n0 h (mkF m pc ls (.long y :: .long x :: st)) (mkF m pc' ls (.long (x &&& y) :: st)) := by
  subst hp
  exact OG.of fun s' T locs cl sl X target k => XS.land X.here C.1 rfl (C.d hd) rfl k
theorem OG.ior (C : OC p s m meth c Z own nm bytes ml ret) {x y : Int32} (hd : decode bytes pc = .ok (.ior, 1))  (hp : pc + 1 = pc') : OG p l e R s m args below meth c n0 h (mkF m pc ls (.int y :: .int x :: st)) (mkF m pc' ls (.int (x ||| y) :: st)) := by
  subst hp
  exact OG.of fun s' T locs cl sl X target k => XS.ior X.here C.1 rfl (C.d hd) rfl k
theorem OG.lor (C : OC p s m meth c Z own nm bytes ml ret) {x y : Int64} (hd : decode bytes pc = .ok (.lor, 1))  (hp : pc + 1 = pc') : OG p l e R s m args below meth c n0 h (mkF m pc ls (.long y :: .long x :: st)) (mkF m pc' ls (.long (x ||| y) :: st)) := by
  subst hp
  exact OG.of fun s' T locs cl sl X target k => XS.lor X.here C.1 rfl (C.d hd) rfl k
theorem OG.ixor (C : OC p s m meth c Z own nm bytes ml ret) {x y : Int32} (hd : decode bytes pc = .ok (.ixor, 1))  (hp : pc + 1 = pc') : OG p l e R s m args below meth c n0 h (mkF m pc ls (.int y :: .int x :: st)) (mkF m pc' ls (.int (x ^^^ y) :: st)) := by
  subst hp
  exact OG.of fun s' T locs cl sl X target k => XS.ixor X.here C.1 rfl (C.d hd) rfl k
theorem OG.lxor (C : OC p s m meth c Z own nm bytes ml ret) {x y : Int64} (hd : decode bytes pc = .ok (.lxor, 1))  (hp : pc + 1 = pc') : OG p l e R s m args below meth c n0 h (mkF m pc ls (.long y :: .long x :: st)) (mkF m pc' ls (.long (x ^^^ y) :: st)) := by
  subst hp
  exact OG.of fun s' T locs cl sl X target k => XS.lxor X.here C.1 rfl (C.d hd) rfl k
theorem OG.idiv (C : OC p s m meth c Z own nm bytes ml ret) {x y : Int32} (hd : decode bytes pc = .ok (.idiv, 1)) (hy : y ≠ 0) (hp : pc + 1 = pc') : OG p l e R s m args below meth c n0 h (mkF m pc ls (.int y :: .int x :: st)) (mkF m pc' ls (.int (x / y) :: st)) := by
  subst hp
  exact OG.of fun s' T locs cl sl X target k => XS.idiv X.here C.1 rfl (C.d hd) rfl hy k
theorem OG.ldiv (C : OC p s m meth c Z own nm bytes ml ret) {x y : Int64} (hd : decode bytes pc = .ok (.ldiv, 1)) (hy : y ≠ 0) (hp : pc + 1 = pc') : OG p l e R s m args below meth c n0 h (mkF m pc ls (.long y :: .long x :: st)) (mkF m pc' ls (.long (x / y) :: st)) := by
  subst hp
  exact OG.of fun s' T locs cl sl X target k => XS.ldiv X.here C.1 rfl (C.d hd) rfl hy k
theorem OG.ineg (C : OC p s m meth c Z own nm bytes ml ret) {x : Int32} (hd : decode bytes pc = .ok (.ineg, 1))  (hp : pc + 1 = pc') : OG p l e R s m args below meth c n0 h (mkF m pc ls (.int x :: st)) (mkF m pc' ls (.int (-x) :: st)) := by
  subst hp
  exact OG.of fun s' T locs cl sl X target k => XS.ineg X.here C.1 rfl (C.d hd) rfl k
theorem OG.lneg (C : OC p s m meth c Z own nm bytes ml ret) {x : Int64} (hd : decode bytes pc = .ok (.lneg, 1))  (hp : pc + 1 = pc') : OG p l e R s m args below meth c n0 h (mkF m pc ls (.long x :: st)) (mkF m pc' ls (.long (-x) :: st)) := by
  subst hp
  exact OG.of fun s' T locs cl sl X target k => XS.lneg X.here C.1 rfl (C.d hd) rfl k
theorem OG.i2l (C : OC p s m meth c Z own nm bytes ml ret) {x : Int32} (hd : decode bytes pc = .ok (.i2l, 1))  (hp : pc + 1 = pc') : OG p l e R s m args below meth c n0 h (mkF m pc ls (.int x :: st)) (mkF m pc' ls (.long x.toInt64 :: st)) := by
  subst hp
  exact OG.of fun s' T locs cl sl X target k => XS.i2l X.here C.1 rfl (C.d hd) rfl k
theorem OG.l2i (C : OC p s m meth c Z own nm bytes ml ret) {x : Int64} (hd : decode bytes pc = .ok (.l2i, 1))  (hp : pc + 1 = pc') : OG p l e R s m args below meth c n0 h (mkF m pc ls (.long x :: st)) (mkF m pc' ls (.int x.toInt32 :: st)) := by
  subst hp
  exact OG.of fun s' T locs cl sl X target k => XS.l2i X.here C.1 rfl (C.d hd) rfl k
theorem OG.i2b (C : OC p s m meth c Z own nm bytes ml ret) {x : Int32} (hd : decode bytes pc = .ok (.i2b, 1))  (hp : pc + 1 = pc') : OG p l e R s m args below meth c n0 h (mkF m pc ls (.int x :: st)) (mkF m pc' ls (.int x.toInt8.toInt32 :: st)) := by
  subst hp
  exact OG.of fun s' T locs cl sl X target k => XS.i2b X.here C.1 rfl (C.d hd) rfl k
theorem OG.i2c (C : OC p s m meth c Z own nm bytes ml ret) {x : Int32} (hd : decode bytes pc = .ok (.i2c, 1))  (hp : pc + 1 = pc') : OG p l e R s m args below meth c n0 h (mkF m pc ls (.int x :: st)) (mkF m pc' ls (.int x.toUInt32.toUInt16.toUInt32.toInt32 :: st)) := by
  subst hp
  exact OG.of fun s' T locs cl sl X target k => XS.i2c X.here C.1 rfl (C.d hd) rfl k
theorem OG.i2s (C : OC p s m meth c Z own nm bytes ml ret) {x : Int32} (hd : decode bytes pc = .ok (.i2s, 1))  (hp : pc + 1 = pc') : OG p l e R s m args below meth c n0 h (mkF m pc ls (.int x :: st)) (mkF m pc' ls (.int x.toInt16.toInt32 :: st)) := by
  subst hp
  exact OG.of fun s' T locs cl sl X target k => XS.i2s X.here C.1 rfl (C.d hd) rfl k
theorem OG.ishl (C : OC p s m meth c Z own nm bytes ml ret) {x y : Int32} (hd : decode bytes pc = .ok (.ishl, 1))  (hp : pc + 1 = pc') : OG p l e R s m args below meth c n0 h (mkF m pc ls (.int y :: .int x :: st)) (mkF m pc' ls (.int (x <<< (y &&& 31)) :: st)) := by
  subst hp
  exact OG.of fun s' T locs cl sl X target k => XS.ishl X.here C.1 rfl (C.d hd) rfl k
theorem OG.ishr (C : OC p s m meth c Z own nm bytes ml ret) {x y : Int32} (hd : decode bytes pc = .ok (.ishr, 1))  (hp : pc + 1 = pc') : OG p l e R s m args below meth c n0 h (mkF m pc ls (.int y :: .int x :: st)) (mkF m pc' ls (.int (x >>> (y &&& 31)) :: st)) := by
  subst hp
  exact OG.of fun s' T locs cl sl X target k => XS.ishr X.here C.1 rfl (C.d hd) rfl k
theorem OG.iushr (C : OC p s m meth c Z own nm bytes ml ret) {x y : Int32} (hd : decode bytes pc = .ok (.iushr, 1))  (hp : pc + 1 = pc') : OG p l e R s m args below meth c n0 h (mkF m pc ls (.int y :: .int x :: st)) (mkF m pc' ls (.int (x.toUInt32 >>> (y &&& 31).toUInt32).toInt32 :: st)) := by
  subst hp
  exact OG.of fun s' T locs cl sl X target k => XS.iushr X.here C.1 rfl (C.d hd) rfl k
theorem OG.lshl (C : OC p s m meth c Z own nm bytes ml ret) {x : Int64} {y : Int32} (hd : decode bytes pc = .ok (.lshl, 1))  (hp : pc + 1 = pc') : OG p l e R s m args below meth c n0 h (mkF m pc ls (.int y :: .long x :: st)) (mkF m pc' ls (.long (x <<< (y &&& 0x3f).toInt64) :: st)) := by
  subst hp
  exact OG.of fun s' T locs cl sl X target k => XS.lshl X.here C.1 rfl (C.d hd) rfl k
theorem OG.lshr (C : OC p s m meth c Z own nm bytes ml ret) {x : Int64} {y : Int32} (hd : decode bytes pc = .ok (.lshr, 1))  (hp : pc + 1 = pc') : OG p l e R s m args below meth c n0 h (mkF m pc ls (.int y :: .long x :: st)) (mkF m pc' ls (.long (x >>> (y &&& 0x3f).toInt64) :: st)) := by
  subst hp
  exact OG.of fun s' T locs cl sl X target k => XS.lshr X.here C.1 rfl (C.d hd) rfl k
theorem OG.lushr (C : OC p s m meth c Z own nm bytes ml ret) {x : Int64} {y : Int32} (hd : decode bytes pc = .ok (.lushr, 1))  (hp : pc + 1 = pc') : OG p l e R s m args below meth c n0 h (mkF m pc ls (.int y :: .long x :: st)) (mkF m pc' ls (.long (x.toUInt64 >>> (y &&& 0x3f).toInt64.toUInt64).toInt64 :: st)) := by
  subst hp
  exact OG.of fun s' T locs cl sl X target k => XS.lushr X.here C.1 rfl (C.d hd) rfl k
theorem OG.lcmp (C : OC p s m meth c Z own nm bytes ml ret) {x y : Int64} (hd : decode bytes pc = .ok (.lcmp, 1))  (hp : pc + 1 = pc') : OG p l e R s m args below meth c n0 h (mkF m pc ls (.long y :: .long x :: st)) (mkF m pc' ls (.int (lcmpW x y) :: st)) := by
  subst hp
  exact OG.of fun s' T locs cl sl X target k => XS.lcmp X.here C.1 rfl (C.d hd) rfl k
theorem OG.dup (C : OC p s m meth c Z own nm bytes ml ret) {x : Value} (hd : decode bytes pc = .ok (.dup, 1)) (hc : x.category = 1) (hp : pc + 1 = pc') : OG p l e R s m args below meth c n0 h (mkF m pc ls (x :: st)) (mkF m pc' ls (x :: x :: st)) := by
  subst hp
  exact OG.of fun s' T locs cl sl X target k => XS.dup X.here C.1 rfl (C.d hd) rfl hc k
theorem OG.pop (C : OC p s m meth c Z own nm bytes ml ret) {x : Value} (hd : decode bytes pc = .ok (.pop, 1)) (hc : x.category = 1) (hp : pc + 1 = pc') : OG p l e R s m args below meth c n0 h (mkF m pc ls (x :: st)) (mkF m pc' ls st) := by
  subst hp
  exact OG.of fun s' T locs cl sl X target k => XS.pop X.here C.1 rfl (C.d hd) rfl hc k
theorem OG.iinc (C : OC p s m meth c Z own nm bytes ml ret) {k : Nat} {i : Int} {x z : Int32} (hd : decode bytes pc = .ok (.iinc k i, 3)) (hz : Int32.ofInt i = z) (hl : ls[k]? = some (.val (.int x))) (hl' : storeLocals ls k (.int (x + z)) = some ls') (hp : pc + 3 = pc') : OG p l e R s m args below meth c n0 h (mkF m pc ls st) (mkF m pc' ls' st) := by
  subst hp hz
  exact OG.of fun s' T locs cl sl X target k => XS.iinc X.here C.1 rfl (C.d hd) hl hl' k
theorem OG.goto (C : OC p s m meth c Z own nm bytes ml ret) {o : Int} (hd : decode bytes pc = .ok (.goto o, 3)) (ho : 0 ≤ (pc : Int) + o) (hp : ((pc : Int) + o).toNat = pc') : OG p l e R s m args below meth c n0 h (mkF m pc ls st) (mkF m pc' ls st) := OG.of fun s' T locs cl sl X target k => XS.goto X.here C.1 rfl (pc0 := pc) rfl (C.d hd) ho hp k
theorem OG.ifYes (C : OC p s m meth c Z own nm bytes ml ret) {o : Int} {cd : ClassFile.Cond} {x : Int32} (hd : decode bytes pc = .ok (.ifCond cd o, 3)) (hc : ifCond.holds cd x = true) (ho : 0 ≤ (pc : Int) + o) (hp : ((pc : Int) + o).toNat = pc') : OG p l e R s m args below meth c n0 h (mkF m pc ls (.int x :: st)) (mkF m pc' ls st) := OG.of fun s' T locs cl sl X target k => XS.ifYes X.here C.1 rfl (pc0 := pc) rfl (C.d hd) rfl hc ho hp k
theorem OG.ifNo (C : OC p s m meth c Z own nm bytes ml ret) {o : Int} {cd : ClassFile.Cond} {x : Int32} (hd : decode bytes pc = .ok (.ifCond cd o, 3)) (hc : ifCond.holds cd x = false) (hp : pc + 3 = pc') : OG p l e R s m args below meth c n0 h (mkF m pc ls (.int x :: st)) (mkF m pc' ls st) := by
  subst hp
  exact OG.of fun s' T locs cl sl X target k => XS.ifNo X.here C.1 rfl (C.d hd) rfl hc k
theorem OG.icmpYes (C : OC p s m meth c Z own nm bytes ml ret) {o : Int} {cd : ClassFile.Cond} {x y : Int32} (hd : decode bytes pc = .ok (.if_icmp cd o, 3)) (hc : if_icmp.holds cd x y = true) (ho : 0 ≤ (pc : Int) + o) (hp : ((pc : Int) + o).toNat = pc') : OG p l e R s m args below meth c n0 h (mkF m pc ls (.int y :: .int x :: st)) (mkF m pc' ls st) := OG.of fun s' T locs cl sl X target k => XS.icmpYes X.here C.1 rfl (pc0 := pc) rfl (C.d hd) rfl hc ho hp k
theorem OG.icmpNo (C : OC p s m meth c Z own nm bytes ml ret) {o : Int} {cd : ClassFile.Cond} {x y : Int32} (hd : decode bytes pc = .ok (.if_icmp cd o, 3)) (hc : if_icmp.holds cd x y = false) (hp : pc + 3 = pc') : OG p l e R s m args below meth c n0 h (mkF m pc ls (.int y :: .int x :: st)) (mkF m pc' ls st) := by
  subst hp
  exact OG.of fun s' T locs cl sl X target k => XS.icmpNo X.here C.1 rfl (C.d hd) rfl hc k
theorem OG.ifnullYes (C : OC p s m meth c Z own nm bytes ml ret) {o : Int}  (hd : decode bytes pc = .ok (.ifnull o, 3))  (ho : 0 ≤ (pc : Int) + o) (hp : ((pc : Int) + o).toNat = pc') : OG p l e R s m args below meth c n0 h (mkF m pc ls (.null :: st)) (mkF m pc' ls st) := OG.of fun s' T locs cl sl X target k => XS.ifnullYes X.here C.1 rfl (pc0 := pc) rfl (C.d hd) rfl ho hp k
theorem OG.ifnullNo (C : OC p s m meth c Z own nm bytes ml ret) {o : Int} {b : Addr} (hd : decode bytes pc = .ok (.ifnull o, 3))  (hp : pc + 3 = pc') : OG p l e R s m args below meth c n0 h (mkF m pc ls (.ref b :: st)) (mkF m pc' ls st) := by
  subst hp
  exact OG.of fun s' T locs cl sl X target k => XS.ifnullNo X.here C.1 rfl (C.d hd) rfl k
theorem OG.ifnonnullYes (C : OC p s m meth c Z own nm bytes ml ret) {o : Int} {b : Addr} (hd : decode bytes pc = .ok (.ifnonnull o, 3))  (ho : 0 ≤ (pc : Int) + o) (hp : ((pc : Int) + o).toNat = pc') : OG p l e R s m args below meth c n0 h (mkF m pc ls (.ref b :: st)) (mkF m pc' ls st) := OG.of fun s' T locs cl sl X target k => XS.ifnonnullYes X.here C.1 rfl (pc0 := pc) rfl (C.d hd) rfl ho hp k
theorem OG.ifnonnullNo (C : OC p s m meth c Z own nm bytes ml ret) {o : Int}  (hd : decode bytes pc = .ok (.ifnonnull o, 3))  (hp : pc + 3 = pc') : OG p l e R s m args below meth c n0 h (mkF m pc ls (.null :: st)) (mkF m pc' ls st) := by
  subst hp
  exact OG.of fun s' T locs cl sl X target k => XS.ifnonnullNo X.here C.1 rfl (C.d hd) rfl k
theorem OG.irem (C : OC p s m meth c Z own nm bytes ml ret) {x y : Int32} (hd : decode bytes pc = .ok (.irem, 1)) (hy : y ≠ 0) (hp : pc + 1 = pc') : OG p l e R s m args below meth c n0 h (mkF m pc ls (.int y :: .int x :: st)) (mkF m pc' ls (.int (x % y) :: st)) := by
  subst hp
  refine OG.of fun s' T locs cl sl X target k => XS.irem X.here C.1 rfl (C.d hd) rfl hy ?_
  rw [irem_eq_mod x y]; exact k
theorem OG.lrem (C : OC p s m meth c Z own nm bytes ml ret) {x y : Int64} (hd : decode bytes pc = .ok (.lrem, 1)) (hy : y ≠ 0) (hp : pc + 1 = pc') : OG p l e R s m args below meth c n0 h (mkF m pc ls (.long y :: .long x :: st)) (mkF m pc' ls (.long (x % y) :: st)) := by
  subst hp
  refine OG.of fun s' T locs cl sl X target k => XS.lrem X.here C.1 rfl (C.d hd) rfl hy ?_
  rw [lrem_mod x y]; exact k
theorem OG.acmp (C : OC p s m meth c Z own nm bytes ml ret) {o : Int} {cd : ACond} {x y : Value} {same : Bool} (hd : decode bytes pc = .ok (.if_acmp cd o, 3)) (h1 : x.isRef = true) (h2 : y.isRef = true) (hq : decide (x = y) = same) (ho : 0 ≤ (pc : Int) + o) (hp : pc' = if acV cd same = true then ((pc : Int) + o).toNat else pc + 3) :
    OG p l e R s m args below meth c n0 h (mkF m pc ls (y :: x :: st)) (mkF m pc' ls st) :=
  OG.of fun s' T locs cl sl X target k => RoadKit.acmp X C.1 rfl h1 h2 (pc0 := pc) rfl (C.d hd) rfl hq ho hp k
theorem OG.ldcI (C : OC p s m meth c Z own nm bytes ml ret) {i : Nat} {v : Int32} (w : (Cond.constant own i v).before a0 Z = true) (hd : decode bytes pc = .ok (.ldc i, 2)) (hp : pc + 2 = pc') : OG p l e R s m args below meth c n0 h (mkF m pc ls st) (mkF m pc' ls (.int v :: st)) := by
  subst hp
  rintro T locs cl sl ⟨X, N0, e0, bc, bs⟩
  exact ⟨T, locs, ⟨X, N0, e0, bc, bs⟩, fun target k => X.ldcInt C.1 C.2.2.2.1 (mv C.2.2.1 w) (g := mkF m pc ls st) rfl (C.d hd) target k⟩
theorem OG.ldcL (C : OC p s m meth c Z own nm bytes ml ret) {i : Nat} {v : Int64} (w : (Cond.constantLong own i v).before a0 Z = true) (hd : decode bytes pc = .ok (.ldc2_w i, 3)) (hp : pc + 3 = pc') : OG p l e R s m args below meth c n0 h (mkF m pc ls st) (mkF m pc' ls (.long v :: st)) := by
  subst hp
  rintro T locs cl sl ⟨X, N0, e0, bc, bs⟩
  exact ⟨T, locs, ⟨X, N0, e0, bc, bs⟩, fun target k => X.ldc2Long C.1 C.2.2.2.1 (mv C.2.2.1 w) (g := mkF m pc ls st) rfl (C.d hd) target k⟩
theorem OG.ldcS (C : OC p s m meth c Z own nm bytes ml ret) {i : Nat} {t : String} {a : Addr} (w : (Cond.stringRef own i t).before a0 Z = true) (F : Lit Z own i a) (hd : decode bytes pc = .ok (.ldc i, 2)) (hp : pc + 2 = pc') : OG p l e R s m args below meth c n0 h (mkF m pc ls st) (mkF m pc' ls (.ref a :: st)) := by
  subst hp
  rintro T locs cl sl ⟨X, N0, e0, bc, bs⟩
  exact ⟨T, locs, ⟨X, N0, e0, bc, bs⟩, fun target k => ldcR X C.1 C.2.2.1 C.2.2.2.1 w F (g := mkF m pc ls st) rfl (C.d hd) target k⟩
theorem OG.getF (C : OC p s m meth c Z own nm bytes ml ret) {R0 O n d host : String} {i : Nat} {a : Addr} {v : Value} (w : (Cond.fieldLink own i R0 n d).before a0 Z = true ∨ (Cond.fieldLinkNest own i R0 n d host).before a0 Z = true) (via : Via Z R0 O n d) (F : Fld Z h a O n d v) (hd : decode bytes pc = .ok (.getfield i, 3)) (hp : pc + 3 = pc') :
    OG p l e R s m args below meth c n0 h (mkF m pc ls (.ref a :: st)) (mkF m pc' ls (v :: st)) := by
  subst hp
  rintro T locs cl sl ⟨X, N0, e0, bc, bs⟩
  obtain ⟨T', X', e', k⟩ := RoadKit.getF X C.1 C.2.2.1 C.2.2.2.1 w via e0 F (g := mkF m pc ls (.ref a :: st)) rfl rfl (C.d hd)
  exact ⟨T', locs, ⟨X', N0, e', bc, bs⟩, k⟩
theorem OG.getS (C : OC p s m meth c Z own nm bytes ml ret) {R0 O n d host : String} {i : Nat} {v : Value} (w : (Cond.fieldLink own i R0 n d).before a0 Z = true ∨ (Cond.fieldLinkNest own i R0 n d host).before a0 Z = true) (via : Via Z R0 O n d) (F : Sta Z h O n d v) (hd : decode bytes pc = .ok (.getstatic i, 3)) (hp : pc + 3 = pc') :
    OG p l e R s m args below meth c n0 h (mkF m pc ls st) (mkF m pc' ls (v :: st)) := by
  subst hp
  rintro T locs cl sl ⟨X, N0, e0, bc, bs⟩
  obtain ⟨T', X', e', k⟩ := getS2 X C.1 C.2.2.1 C.2.2.2.1 w via e0 F (g := mkF m pc ls st) rfl (C.d hd)
  exact ⟨T', locs, ⟨X', N0, e', bc, bs⟩, k⟩
/-- an array and what stands in it -/
def OA (Z : State) (h : Heap) (a : Addr) (ty : FieldType) (vs : List Value) : Prop := ∃ c : Cell, Arr Z h a c ty ∧ c.slots.toList = vs
theorem OA.lt {a : Addr} {ty : FieldType} {vs : List Value} (A : OA Z h a ty vs) : a < h.size := by obtain ⟨c, A, -⟩ := A; exact A.lt
theorem OA.ext {h' : Heap} {a : Addr} {ty : FieldType} {vs : List Value} (A : OA Z h a ty vs) (E : Ext h h') : OA Z h' a ty vs := by obtain ⟨c, A, r⟩ := A; exact ⟨c, A.ext E, r⟩
theorem OA.other {h' : Heap} {a b : Addr} {k : Nat} {v : Value} {ty : FieldType} {vs : List Value} (A : OA Z h a ty vs) (W : Wr h h' b k v) (q : a ≠ b) : OA Z h' a ty vs := by obtain ⟨c, A, r⟩ := A; exact ⟨c, A.other W q, r⟩
theorem OA.same {h' : Heap} {a : Addr} {k : Nat} {v : Value} {ty : FieldType} {vs : List Value} (A : OA Z h a ty vs) (W : Wr h h' a k v) : OA Z h' a ty (vs.set k v) := by
  obtain ⟨c, A, r⟩ := A
  exact ⟨_, A.same W, by subst r; simp [Cell.setSlot]⟩
theorem OA.keep {h' : Heap} {a : Addr} {ws : List Addr} {ty : FieldType} {vs : List Value} (A : OA Z h a ty vs) (W : Keep h h' ws) (q : a ∉ ws) : OA Z h' a ty vs := by obtain ⟨c, A, r⟩ := A; exact ⟨c, ⟨W.2.1 a c A.1 q, A.2⟩, r⟩
theorem OA.inb {c : Cell} {vs : List Value} {j : Int32} (r : c.slots.toList = vs) (q : 0 ≤ j.toInt ∧ j.toInt < vs.length) : ¬ (j < 0 ∨ c.slots.size ≤ j.toNatClampNeg) := by
  have : c.slots.size = vs.length := by rw [← r]; simp
  rw [Int32.lt_iff_toInt_lt, Int32.toNatClampNeg]
  simp only [Int32.reduceToInt]; omega
theorem own_ib {j : Int32} {vs : List Value} {n : Nat} (q : vs.length = n) (r : 0 ≤ j.toInt ∧ j.toInt < (n : Int)) : 0 ≤ j.toInt ∧ j.toInt < vs.length := by rw [q]; exact r
theorem OA.new {k : ClassId} {a : Addr} {ty : FieldType} {z : Int32} {n : Nat} (A : Arr Z h a (newA k ty z) ty) (q : z.toNatClampNeg = n) : OA Z h a ty (List.replicate n (defaultValue ty)) := ⟨_, A, by subst q; simp [newA]⟩
theorem OG.laload (C : OC p s m meth c Z own nm bytes ml ret) {a : Addr} {j : Int32} {vs : List Value} {v : Value} (F : OA Z h a .long vs) (q : 0 ≤ j.toInt ∧ j.toInt < vs.length) (hv : vs[j.toNatClampNeg]? = some v) (hd : decode bytes pc = .ok (.laload, 1)) (hp : pc + 1 = pc') :
    OG p l e R s m args below meth c n0 h (mkF m pc ls (.int j :: .ref a :: st)) (mkF m pc' ls (v :: st)) := by
  subst hp
  rintro T locs cl sl ⟨X, N0, e0, bc, bs⟩
  obtain ⟨cc, A, r⟩ := F
  exact ⟨T, locs, ⟨X, N0, e0, bc, bs⟩, X.laload C.1 (by rw [e0]; exact A.1) (State.isArrayOf_alike C.2.2.1.alike A.2.1) A.2.2 (OA.inb r q) (by rw [← r] at hv; simpa using hv) (g := mkF m pc ls (.int j :: .ref a :: st)) rfl rfl (C.d hd)⟩
theorem OG.iaload (C : OC p s m meth c Z own nm bytes ml ret) {a : Addr} {j : Int32} {vs : List Value} {v : Value} (F : OA Z h a .int vs) (q : 0 ≤ j.toInt ∧ j.toInt < vs.length) (hv : vs[j.toNatClampNeg]? = some v) (hd : decode bytes pc = .ok (.iaload, 1)) (hp : pc + 1 = pc') :
    OG p l e R s m args below meth c n0 h (mkF m pc ls (.int j :: .ref a :: st)) (mkF m pc' ls (v :: st)) := by
  subst hp
  rintro T locs cl sl ⟨X, N0, e0, bc, bs⟩
  obtain ⟨cc, A, r⟩ := F
  exact ⟨T, locs, ⟨X, N0, e0, bc, bs⟩, X.iaload C.1 (by rw [e0]; exact A.1) (State.isArrayOf_alike C.2.2.1.alike A.2.1) A.2.2 (OA.inb r q) (by rw [← r] at hv; simpa using hv) (g := mkF m pc ls (.int j :: .ref a :: st)) rfl rfl (C.d hd)⟩
theorem OG.caload (C : OC p s m meth c Z own nm bytes ml ret) {a : Addr} {j : Int32} {vs : List Value} {v : Value} (F : OA Z h a .char vs) (q : 0 ≤ j.toInt ∧ j.toInt < vs.length) (hv : vs[j.toNatClampNeg]? = some v) (hd : decode bytes pc = .ok (.caload, 1)) (hp : pc + 1 = pc') :
    OG p l e R s m args below meth c n0 h (mkF m pc ls (.int j :: .ref a :: st)) (mkF m pc' ls (v :: st)) := by
  subst hp
  rintro T locs cl sl ⟨X, N0, e0, bc, bs⟩
  obtain ⟨cc, A, r⟩ := F
  exact ⟨T, locs, ⟨X, N0, e0, bc, bs⟩, X.caload C.1 (by rw [e0]; exact A.1) (State.isArrayOf_alike C.2.2.1.alike A.2.1) A.2.2 (OA.inb r q) (by rw [← r] at hv; simpa using hv) (g := mkF m pc ls (.int j :: .ref a :: st)) rfl rfl (C.d hd)⟩
theorem OG.baload (C : OC p s m meth c Z own nm bytes ml ret) {a : Addr} {j : Int32} {vs : List Value} {v : Value} (F : OA Z h a .byte vs) (q : 0 ≤ j.toInt ∧ j.toInt < vs.length) (hv : vs[j.toNatClampNeg]? = some v) (hd : decode bytes pc = .ok (.baload, 1)) (hp : pc + 1 = pc') :
    OG p l e R s m args below meth c n0 h (mkF m pc ls (.int j :: .ref a :: st)) (mkF m pc' ls (v :: st)) := by
  subst hp
  rintro T locs cl sl ⟨X, N0, e0, bc, bs⟩
  obtain ⟨cc, A, r⟩ := F
  exact ⟨T, locs, ⟨X, N0, e0, bc, bs⟩, X.baloadBytes C.1 (by rw [e0]; exact A.1) (State.isArrayOf_alike C.2.2.1.alike A.2.1) A.2.2 (OA.inb r q) (by rw [← r] at hv; simpa using hv) (g := mkF m pc ls (.int j :: .ref a :: st)) rfl rfl (C.d hd)⟩
theorem OG.aaload (C : OC p s m meth c Z own nm bytes ml ret) {a : Addr} {j : Int32} {ty : FieldType} {vs : List Value} {v : Value} (F : OA Z h a ty vs) (ht : ty.isReference = true) (q : 0 ≤ j.toInt ∧ j.toInt < vs.length) (hv : vs[j.toNatClampNeg]? = some v) (hd : decode bytes pc = .ok (.aaload, 1)) (hp : pc + 1 = pc') :
    OG p l e R s m args below meth c n0 h (mkF m pc ls (.int j :: .ref a :: st)) (mkF m pc' ls (v :: st)) := by
  subst hp
  rintro T locs cl sl ⟨X, N0, e0, bc, bs⟩
  obtain ⟨cc, A, r⟩ := F
  exact ⟨T, locs, ⟨X, N0, e0, bc, bs⟩, X.aaload C.1 (by rw [e0]; exact A.1) (State.isArrayOf_alike C.2.2.1.alike A.2.1) ht A.2.2 (OA.inb r q) (by rw [← r] at hv; simpa using hv) (g := mkF m pc ls (.int j :: .ref a :: st)) rfl rfl (C.d hd)⟩
theorem OG.arraylength (C : OC p s m meth c Z own nm bytes ml ret) {a : Addr} {ty : FieldType} {vs : List Value} {z : Int32} (F : OA Z h a ty vs) (hz : vs.length.toInt32 = z) (hd : decode bytes pc = .ok (.arraylength, 1)) (hp : pc + 1 = pc') :
    OG p l e R s m args below meth c n0 h (mkF m pc ls (.ref a :: st)) (mkF m pc' ls (.int z :: st)) := by
  subst hp hz
  rintro T locs cl sl ⟨X, N0, e0, bc, bs⟩
  obtain ⟨cc, A, r⟩ := F
  refine ⟨T, locs, ⟨X, N0, e0, bc, bs⟩, fun t k => X.arraylength C.1 (by rw [e0]; exact A.1) (State.isArrayOf_alike C.2.2.1.alike A.2.1) (g := mkF m pc ls (.ref a :: st)) rfl rfl (C.d hd) t ?_⟩
  have : cc.slots.size = vs.length := by rw [← r]; simp
  rw [this]; exact k
/-! returns -/
theorem OW.retI (C : OC p s m meth c Z own nm bytes ml (some .int)) {z : Int32} (hd : decode bytes pc = .ok (.ireturn, 1)) (hK : cl ≤ K) (hN : sl ≤ N) (hQ : Q (some (.int z)) h) : OW p l e R s m args below meth c n0 Q K N h cl sl (mkF m pc ls (.int z :: st)) := fun T locs ⟨X, N0, e0, bc, bs⟩ => by
  obtain ⟨fs, hr, hrun, hended, hW, hsame⟩ := X.leave (v := some (.int z)) (fun q => by rw [C.2.2.2.2.2.1] at q; cases q) C.2.2.2.2.2.2.1
  exact ⟨_, _, retOut X C.1 C.2.2.2.2.2.1 rfl (Or.inl ⟨rfl, Or.inl rfl, z, rfl⟩) (C.d hd) hr, hrun, hended, _, locs, rfl, ⟨by show Q _ T.heap; rw [e0]; exact hQ, N0⟩, ⟨_, rfl⟩, hW, hsame.mono hK hN⟩
theorem OW.retN {t : FieldType} (C : OC p s m meth c Z own nm bytes ml (some t)) {z : Int32} (ht : t = .boolean ∨ t = .byte ∨ t = .char ∨ t = .short) (hd : decode bytes pc = .ok (.ireturn, 1)) (hK : cl ≤ K) (hN : sl ≤ N) (hQ : Q (some (.int (nar t z))) h) : OW p l e R s m args below meth c n0 Q K N h cl sl (mkF m pc ls (.int z :: st)) := fun T locs ⟨X, N0, e0, bc, bs⟩ => by
  obtain ⟨fs, hr, hrun, hended, hW, hsame⟩ := X.leave (v := some (.int (nar t z))) (fun q => by rw [C.2.2.2.2.2.1] at q; cases q) C.2.2.2.2.2.2.1
  exact ⟨_, _, RoadKit.retN X C.1 C.2.2.2.2.2.1 ht (C.d hd) hr, hrun, hended, _, locs, rfl, ⟨by show Q _ T.heap; rw [e0]; exact hQ, N0⟩, ⟨_, rfl⟩, hW, hsame.mono hK hN⟩
theorem OW.retL (C : OC p s m meth c Z own nm bytes ml (some .long)) {z : Int64} (hd : decode bytes pc = .ok (.lreturn, 1)) (hK : cl ≤ K) (hN : sl ≤ N) (hQ : Q (some (.long z)) h) : OW p l e R s m args below meth c n0 Q K N h cl sl (mkF m pc ls (.long z :: st)) := fun T locs ⟨X, N0, e0, bc, bs⟩ => by
  obtain ⟨fs, hr, hrun, hended, hW, hsame⟩ := X.leave (v := some (.long z)) (fun q => by rw [C.2.2.2.2.2.1] at q; cases q) C.2.2.2.2.2.2.1
  exact ⟨_, _, retOut X C.1 C.2.2.2.2.2.1 rfl (Or.inr (Or.inl ⟨rfl, rfl, z, rfl⟩)) (C.d hd) hr, hrun, hended, _, locs, rfl, ⟨by show Q _ T.heap; rw [e0]; exact hQ, N0⟩, ⟨_, rfl⟩, hW, hsame.mono hK hN⟩
theorem OW.retA {t : FieldType} (C : OC p s m meth c Z own nm bytes ml (some t)) {v : Value} (ht : t.isReference = true) (hv : v.isRef = true) (hd : decode bytes pc = .ok (.areturn, 1)) (hK : cl ≤ K) (hN : sl ≤ N) (hQ : Q (some v) h) : OW p l e R s m args below meth c n0 Q K N h cl sl (mkF m pc ls (v :: st)) := fun T locs ⟨X, N0, e0, bc, bs⟩ => by
  have hn : narrow t v = v := by cases t <;> first | (cases ht; done) | (cases v <;> rfl)
  obtain ⟨fs, hr, hrun, hended, hW, hsame⟩ := X.leave (v := some v) (fun q => by rw [C.2.2.2.2.2.1] at q; cases q) C.2.2.2.2.2.2.1
  exact ⟨_, _, retOut X C.1 C.2.2.2.2.2.1 hn (Or.inr (Or.inr (Or.inr (Or.inr ⟨rfl, ht, hv⟩)))) (C.d hd) hr, hrun, hended, _, locs, rfl, ⟨by show Q _ T.heap; rw [e0]; exact hQ, N0⟩, ⟨_, rfl⟩, hW, hsame.mono hK hN⟩
theorem OW.retV (C : OC p s m meth c Z own nm bytes ml none) (hd : decode bytes pc = .ok (.return_, 1)) (hK : cl ≤ K) (hN : sl ≤ N) (hQ : Q none h) : OW p l e R s m args below meth c n0 Q K N h cl sl (mkF m pc ls []) := fun T locs ⟨X, N0, e0, bc, bs⟩ => by
  obtain ⟨fs, hr, hrun, hended, hW, hsame⟩ := X.leave (v := none) (fun _ => rfl) C.2.2.2.2.2.2.1
  exact ⟨_, _, X.returnOut C.1 C.2.2.2.2.2.1 (C.d hd) hr, hrun, hended, _, locs, rfl, ⟨by show Q _ T.heap; rw [e0]; exact hQ, N0⟩, ⟨_, rfl⟩, hW, hsame.mono hK hN⟩
/-! the heap: new, putfield, arrays -/
theorem OW.putF (C : OC p s m meth c Z own nm bytes ml ret) {R0 O n d host Cl : String} {i kk : Nat} {ty : FieldType} {a : Addr} {v old : Value} (w : (Cond.fieldLink own i R0 n d).before a0 Z = true ∨ (Cond.fieldLinkNest own i R0 n d host).before a0 Z = true) (via : Via Z R0 O n d) (F : Fld Z h a O n d old) (E : Exa Z h a Cl)
    (L : (Cond.lays Cl O n d).before a0 Z = true ∨ ((Cond.laysFinal Cl O n d).before a0 Z = true ∧ own = O ∧ nm = "<init>")) (wi : (Cond.instantiable Cl kk).before a0 Z = true) (hty : parseFieldDescriptor d = some ty) (hn : narrow ty v = v) (hf : fits ty v = true) (hna : n0 ≤ a) (hd : decode bytes pc = .ok (.putfield i, 3)) (hp : pc + 3 = pc')
    (k : ∀ h', Wr h h' a (slotOf Z O n d) v → OW p l e R s m args below meth c n0 Q K N h' cl sl (mkF m pc' ls st)) : OW p l e R s m args below meth c n0 Q K N h cl sl (mkF m pc ls (v :: .ref a :: st)) := fun T locs ⟨X, N0, e0, bc, bs⟩ => by
  subst hp
  obtain ⟨T', h', X', e', W, kk⟩ := RoadKit.putF X C.1 C.2.2.1 C.2.2.2.1 w via e0 F E (L.imp id fun q => ⟨q.1, q.2.1, C.2.2.2.2.2.2.2.trans q.2.2⟩) wi hty hn hf (g := mkF m pc ls (v :: .ref a :: st)) rfl rfl (C.d hd)
  obtain ⟨s₂, o, q, r⟩ := k h' W T' _ ⟨X', Fr.snoc X' N0 hna, e', bc, bs⟩
  exact ⟨s₂, o, kk _ q, r⟩
theorem OW.newO (C : OC p s m meth c Z own nm bytes ml ret) {Cl : String} {i nn : Nat} (w : (Cond.classLink own i Cl).before a0 Z = true) (wi : (Cond.instantiable Cl nn).before a0 Z = true) (wz : (Cond.initialized Cl).before a0 Z = true) (hd : decode bytes pc = .ok (.new i, 3)) (hc : cl + 1 ≤ R.cells) (hl : sl + nn ≤ R.slots) (hp : pc + 3 = pc')
    (k : ∀ (a : Addr) h', h.size = a → Ext h h' → Exa Z h' a Cl → (∀ {O nm d : String} {ty : FieldType}, Laid Z a0 Cl O nm d → parseFieldDescriptor d = some ty → Fld Z h' a O nm d (defaultValue ty)) → OW p l e R s m args below meth c n0 Q K N h' (cl + 1) (sl + nn) (mkF m pc' ls (.ref a :: st))) : OW p l e R s m args below meth c n0 Q K N h cl sl (mkF m pc ls st) := fun T locs ⟨X, N0, e0, bc, bs⟩ => by
  subst hp
  obtain ⟨T', h', X', e', E, A, D, -, kk⟩ := RoadKit.newO X C.1 C.2.2.1 C.2.2.2.1 w wi wz e0 (g := mkF m pc ls st) rfl (C.d hd) hc hl
  obtain ⟨s₂, o, q, r⟩ := k _ h' rfl E A D T' _ ⟨X', N0, e', hc, hl⟩
  exact ⟨s₂, o, kk _ q, r⟩
theorem OW.newP (C : OC p s m meth c Z own nm bytes ml ret) {aty : ArrayType} {n : Int32} {cap : Nat} {ty : FieldType} (hty : newarray.typeOf aty = ty) (w : (Cond.arrayClass ty).before a0 Z = true) (hn : ¬ n < 0) (hcap : n.toNatClampNeg = cap) (hb : cap * 8 ≤ 536870912) (hd : decode bytes pc = .ok (.newarray aty, 2)) (hc : cl + 1 ≤ R.cells) (hl : sl + cap ≤ R.slots) (hp : pc + 2 = pc')
    (k : ∀ (a : Addr) h', h.size = a → Ext h h' → OA Z h' a ty (List.replicate cap (defaultValue ty)) → OW p l e R s m args below meth c n0 Q K N h' (cl + 1) (sl + cap) (mkF m pc' ls (.ref a :: st))) : OW p l e R s m args below meth c n0 Q K N h cl sl (mkF m pc ls (.int n :: st)) := fun T locs ⟨X, N0, e0, bc, bs⟩ => by
  subst hp hty
  obtain ⟨T', h', cA, X', e', E, A, kk⟩ := RoadKit.newP X C.1 C.2.2.1 w e0 (g := mkF m pc ls (.int n :: st)) rfl (C.d hd) rfl hn (Nat.le_of_eq hcap) hb hc hl
  obtain ⟨s₂, o, q, r⟩ := k _ h' rfl E (OA.new A hcap) T' _ ⟨X', N0, e', hc, hl⟩
  exact ⟨s₂, o, kk _ q, r⟩
theorem OW.lastore (C : OC p s m meth c Z own nm bytes ml ret) {a : Addr} {j : Int32} {x : Int64} {vs : List Value} (F : OA Z h a .long vs) (q : 0 ≤ j.toInt ∧ j.toInt < vs.length) (hna : n0 ≤ a) (hd : decode bytes pc = .ok (.lastore, 1)) (hp : pc + 1 = pc')
    (k : ∀ h', Wr h h' a j.toNatClampNeg (.long x) → OW p l e R s m args below meth c n0 Q K N h' cl sl (mkF m pc' ls st)) : OW p l e R s m args below meth c n0 Q K N h cl sl (mkF m pc ls (.long x :: .int j :: .ref a :: st)) := fun T locs ⟨X, N0, e0, bc, bs⟩ => by
  subst hp
  obtain ⟨cc, A, r⟩ := F
  obtain ⟨T', h', X', e', W, kk⟩ := stJ X C.1 C.2.2.1 e0 A (OA.inb r q) (g := mkF m pc ls (.long x :: .int j :: .ref a :: st)) rfl rfl (C.d hd)
  obtain ⟨s₂, o, q, r⟩ := k h' W T' _ ⟨X', Fr.snoc X' N0 hna, e', bc, bs⟩
  exact ⟨s₂, o, kk _ q, r⟩
theorem OW.iastore (C : OC p s m meth c Z own nm bytes ml ret) {a : Addr} {j x : Int32} {vs : List Value} (F : OA Z h a .int vs) (q : 0 ≤ j.toInt ∧ j.toInt < vs.length) (hna : n0 ≤ a) (hd : decode bytes pc = .ok (.iastore, 1)) (hp : pc + 1 = pc')
    (k : ∀ h', Wr h h' a j.toNatClampNeg (.int x) → OW p l e R s m args below meth c n0 Q K N h' cl sl (mkF m pc' ls st)) : OW p l e R s m args below meth c n0 Q K N h cl sl (mkF m pc ls (.int x :: .int j :: .ref a :: st)) := fun T locs ⟨X, N0, e0, bc, bs⟩ => by
  subst hp
  obtain ⟨cc, A, r⟩ := F
  obtain ⟨T', h', X', e', W, kk⟩ := stI X C.1 C.2.2.1 e0 A (OA.inb r q) (g := mkF m pc ls (.int x :: .int j :: .ref a :: st)) rfl rfl (C.d hd)
  obtain ⟨s₂, o, q, r⟩ := k h' W T' _ ⟨X', Fr.snoc X' N0 hna, e', bc, bs⟩
  exact ⟨s₂, o, kk _ q, r⟩
theorem OW.bastore (C : OC p s m meth c Z own nm bytes ml ret) {a : Addr} {j x : Int32} {vs : List Value} (F : OA Z h a .byte vs) (q : 0 ≤ j.toInt ∧ j.toInt < vs.length) (hna : n0 ≤ a) (hd : decode bytes pc = .ok (.bastore, 1)) (hp : pc + 1 = pc')
    (k : ∀ h', Wr h h' a j.toNatClampNeg (.int (nar .byte x)) → OW p l e R s m args below meth c n0 Q K N h' cl sl (mkF m pc' ls st)) : OW p l e R s m args below meth c n0 Q K N h cl sl (mkF m pc ls (.int x :: .int j :: .ref a :: st)) := fun T locs ⟨X, N0, e0, bc, bs⟩ => by
  subst hp
  obtain ⟨cc, A, r⟩ := F
  obtain ⟨T', h', X', e', W, kk⟩ := stB X C.1 C.2.2.1 e0 A (OA.inb r q) (g := mkF m pc ls (.int x :: .int j :: .ref a :: st)) rfl rfl (C.d hd)
  obtain ⟨s₂, o, q, r⟩ := k h' W T' _ ⟨X', Fr.snoc X' N0 hna, e', bc, bs⟩
  exact ⟨s₂, o, kk _ q, r⟩
theorem OW.castore (C : OC p s m meth c Z own nm bytes ml ret) {a : Addr} {j x : Int32} {vs : List Value} (F : OA Z h a .char vs) (q : 0 ≤ j.toInt ∧ j.toInt < vs.length) (hna : n0 ≤ a) (hd : decode bytes pc = .ok (.castore, 1)) (hp : pc + 1 = pc')
    (k : ∀ h', Wr h h' a j.toNatClampNeg (.int (nar .char x)) → OW p l e R s m args below meth c n0 Q K N h' cl sl (mkF m pc' ls st)) : OW p l e R s m args below meth c n0 Q K N h cl sl (mkF m pc ls (.int x :: .int j :: .ref a :: st)) := fun T locs ⟨X, N0, e0, bc, bs⟩ => by
  subst hp
  obtain ⟨cc, A, r⟩ := F
  obtain ⟨T', h', X', e', W, kk⟩ := stC X C.1 C.2.2.1 e0 A (OA.inb r q) (g := mkF m pc ls (.int x :: .int j :: .ref a :: st)) rfl rfl (C.d hd)
  obtain ⟨s₂, o, q, r⟩ := k h' W T' _ ⟨X', Fr.snoc X' N0 hna, e', bc, bs⟩
  exact ⟨s₂, o, kk _ q, r⟩
theorem OG.initO (C : OC p s m meth c Z own nm bytes ml ret) {i W : Nat} {a : Addr} (w1 : (Cond.methodLink own i Lib.objectInit).before a0 Z = true) (w2 : (Cond.instanceMethod Lib.objectInit).before a0 Z = true) (w3 : (Cond.code Lib.objectInit ⟨#[0xb1]⟩ 1 none).before a0 Z = true) (hd : decode bytes pc = .ok (.invokespecial i, 3)) (hsz : ls.size = ml) (hf : 1 ≤ R.frames) (hW : (st.map fun v => v.category).sum = W) (hl : W + 12 ≤ R.locals) (hp : pc + 3 = pc') :
    OG p l e R s m args below meth c n0 h (mkF m pc ls (.ref a :: st)) (mkF m pc' ls st) := by
  subst hp
  rintro T locs cl sl ⟨X, N0, e0, bc, bs⟩
  obtain ⟨T', X', e', k⟩ := RoadKit.initO X C.1 C.2.2.1 C.2.2.2.1 w1 w2 w3 e0 (g := mkF m pc ls (.ref a :: st)) rfl (by rw [C.2.2.2.2.1]; exact hsz) rfl (C.d hd) hf (W := W) (by show 2 * 0 + _ ≤ _; omega) hl
  exact ⟨T', locs, ⟨X', N0, e', bc, bs⟩, k⟩
/-! contracts and calls -/
def OM (l : Launch) (Z : State) (y : MethodName) (bytes : ByteArray) (ml : Nat) (ret : Option FieldType) (rm : Room) (n0 : Nat) (h : Heap) (as' : Array Value) (Q : Option Value → Heap → Prop) (K N : Nat) : Prop :=
  ∀ ws : List Cond, MetFree l y (head1 (Cond.code y bytes ml ret :: ws) rm) (fun a U => a = as' ∧ Z.Warmed39 U.vm ∧ U.heap = h) (fun _ _ _ _ _ => True) (fun _ U o U' => ∃ v L, o = .returned v ∧ (Q v U'.heap ∧ Fr n0 L) ∧ FrameEnd U o U' L K N)
theorem OM.of_body {y : MethodName} {rm : Room} {as' : Array Value} (hy : plainFor y = true) (hef : ∀ m, entryFrame m as' ml = mkF m 0 ls [])
    (body : ∀ (p : Program) (e : Env) (s : State) (m : MethodId) (below : List Frame) (meth : Method) (c : Code), OC p s m meth c Z y.cls y.name bytes ml ret → OW p l e rm s m as' below meth c n0 Q K N h 0 0 (mkF m 0 ls [])) : OM l Z y bytes ml ret rm n0 h as' Q K N := by
  intro ws
  refine MetFree.of_bodySF hy hisR ?_
  intro p e s m args below meth c s₁ Bd hml0 hP hK
  obtain ⟨rfl, hZ, hh⟩ := hP
  have e0 : s₁.heap = h := by rw [← hh, Bd.state]; rfl
  have X0 : Stand p l e rm s m args below meth c s₁ [] 0 0 := Stand.of_body Bd
  rw [hef m]
  exact body p e s m below meth c ⟨Bd.exec, Bd.bytes, hZ, findClass_of_methodNamed Bd.named, hml0, Bd.returns, Bd.notSynchronized, (name_of_methodNamed Bd.named Bd.method).1⟩ s₁ [] ⟨X0, Fr.nil n0, e0, Nat.zero_le _, Nat.zero_le _⟩
theorem OW.callS (C : OC p s m meth c Z own nm bytes ml ret) {i : Nat} {y : MethodName} {bytes' : ByteArray} {ml' W : Nat} {ret' r0 : Option FieldType} {rm : Room} {argsL rest : List Value} {ps : List FieldType} {Q' : Option Value → Heap → Prop}
    (w1 : (Cond.methodLink own i y).before a0 Z = true) (w2 : (Cond.static y).before a0 Z = true) (w3 : (Cond.initialized y.cls).before a0 Z = true) (w4 : (Cond.code y bytes' ml' ret').before a0 Z = true) (hy : y.cls ≠ "java/lang/invoke/MethodHandle" ∧ y.cls ≠ "java/lang/invoke/VarHandle")
    (hM : OM l Z y bytes' ml' ret' rm n0 h argsL.toArray Q' rm.cells rm.slots) (hd : decode bytes pc = .ok (.invokestatic i, 3)) (hpd : parseMethodDescriptor y.desc = some ⟨ps, r0⟩) (hlen : argsL.length = ps.length) (hst : st = argsL.reverse ++ rest) (hsz : ls.size = ml) (hW : (rest.map fun v => v.category).sum = W)
    (hf : rm.frames + 1 ≤ R.frames) (hlo : W + (ml' + 11) + rm.locals ≤ R.locals) (hcl : cl + rm.cells ≤ R.cells) (hsl : sl + rm.slots ≤ R.slots) (hp : pc + 3 = pc')
    (k : ∀ v h', Q' v h' → OW p l e R s m args below meth c n0 Q K N h' (cl + rm.cells) (sl + rm.slots) (mkF m pc' ls (v.toList ++ rest))) : OW p l e R s m args below meth c n0 Q K N h cl sl (mkF m pc ls st) := fun T locs ⟨X, N0, e0, bc, bs⟩ => by
  subst hp
  obtain ⟨v, vm, ⟨T', L', cl', sl'⟩, -, X', ⟨Lc, ⟨hQ, hL⟩, e1, e2, e3⟩, kk⟩ := Jvm.LawKit.callS X C.1 C.2.2.2.1 (mv C.2.2.1 w1) (mv C.2.2.1 w2) (mv C.2.2.1 w3) (mv C.2.2.1 w4) hy (backOf (W := W) (Q := fun v h L => Q' v h ∧ Fr n0 L) (hM []) C.2.2.1 w4 w3 hf hlo) (g := mkF m pc ls st) rfl (by rw [C.2.2.2.2.1]; exact hsz) (argsL := argsL) (rest := rest) (lenOf hpd hlen) hst (by show 2 * 0 + _ ≤ _; omega) (C.d hd) (fun _ _ => ⟨rfl, e0, hcl, hsl⟩)
  dsimp only [Pt.U, Pt.locs, Pt.cells, Pt.slots] at X' e1 e2 e3 kk hQ
  subst e1 e2 e3
  obtain ⟨s₂, o, q, r⟩ := k v _ hQ T' _ ⟨X', Fr.app N0 hL, rfl, hcl, hsl⟩
  exact ⟨s₂, o, kk _ q, r⟩
theorem OG.callS (C : OC p s m meth c Z own nm bytes ml ret) {i : Nat} {y : MethodName} {bytes' : ByteArray} {ml' W fr lo : Nat} {ret' r0 : Option FieldType} {argsL rest : List Value} {ps : List FieldType} {w : Value}
    (w1 : (Cond.methodLink own i y).before a0 Z = true) (w2 : (Cond.static y).before a0 Z = true) (w3 : (Cond.initialized y.cls).before a0 Z = true) (w4 : (Cond.code y bytes' ml' ret').before a0 Z = true) (hy : y.cls ≠ "java/lang/invoke/MethodHandle" ∧ y.cls ≠ "java/lang/invoke/VarHandle")
    (hM : OM l Z y bytes' ml' ret' ⟨fr, 0, 0, lo⟩ n0 h argsL.toArray (fun v h' => v = some w ∧ h' = h) 0 0) (hd : decode bytes pc = .ok (.invokestatic i, 3)) (hpd : parseMethodDescriptor y.desc = some ⟨ps, r0⟩) (hlen : argsL.length = ps.length) (hst : st = argsL.reverse ++ rest) (hsz : ls.size = ml) (hW : (rest.map fun v => v.category).sum = W)
    (hf : fr + 1 ≤ R.frames) (hlo : W + (ml' + 11) + lo ≤ R.locals) (hp : pc + 3 = pc') :
    OG p l e R s m args below meth c n0 h (mkF m pc ls st) (mkF m pc' ls (w :: rest)) := fun T locs cl sl ⟨X, N0, e0, bc, bs⟩ => by
  subst hp
  obtain ⟨v, vm, ⟨T', L', cl', sl'⟩, -, X', ⟨Lc, ⟨⟨rfl, hQ⟩, hL⟩, e1, e2, e3⟩, kk⟩ := Jvm.LawKit.callS X C.1 C.2.2.2.1 (mv C.2.2.1 w1) (mv C.2.2.1 w2) (mv C.2.2.1 w3) (mv C.2.2.1 w4) hy (backOf (W := W) (Q := fun v h' L => (v = some w ∧ h' = h) ∧ Fr n0 L) (hM []) C.2.2.1 w4 w3 hf hlo) (g := mkF m pc ls st) rfl (by rw [C.2.2.2.2.1]; exact hsz) (argsL := argsL) (rest := rest) (lenOf hpd hlen) hst (by show 2 * 0 + _ ≤ _; omega) (C.d hd) (fun _ _ => ⟨rfl, e0, bc, bs⟩)
  dsimp only [Pt.U, Pt.locs, Pt.cells, Pt.slots] at X' e1 e2 e3 kk hQ
  subst e1 e2 e3
  exact ⟨T', _, ⟨X', Fr.app N0 hL, hQ, bc, bs⟩, kk⟩
theorem OG.callSV (C : OC p s m meth c Z own nm bytes ml ret) {i : Nat} {y : MethodName} {bytes' : ByteArray} {ml' W fr lo : Nat} {ret' r0 : Option FieldType} {argsL rest : List Value} {ps : List FieldType}
    (w1 : (Cond.methodLink own i y).before a0 Z = true) (w2 : (Cond.static y).before a0 Z = true) (w3 : (Cond.initialized y.cls).before a0 Z = true) (w4 : (Cond.code y bytes' ml' ret').before a0 Z = true) (hy : y.cls ≠ "java/lang/invoke/MethodHandle" ∧ y.cls ≠ "java/lang/invoke/VarHandle")
    (hM : OM l Z y bytes' ml' ret' ⟨fr, 0, 0, lo⟩ n0 h argsL.toArray (fun v h' => v = none ∧ h' = h) 0 0) (hd : decode bytes pc = .ok (.invokestatic i, 3)) (hpd : parseMethodDescriptor y.desc = some ⟨ps, r0⟩) (hlen : argsL.length = ps.length) (hst : st = argsL.reverse ++ rest) (hsz : ls.size = ml) (hW : (rest.map fun v => v.category).sum = W)
    (hf : fr + 1 ≤ R.frames) (hlo : W + (ml' + 11) + lo ≤ R.locals) (hp : pc + 3 = pc') :
    OG p l e R s m args below meth c n0 h (mkF m pc ls st) (mkF m pc' ls rest) := fun T locs cl sl ⟨X, N0, e0, bc, bs⟩ => by
  subst hp
  obtain ⟨v, vm, ⟨T', L', cl', sl'⟩, -, X', ⟨Lc, ⟨⟨rfl, hQ⟩, hL⟩, e1, e2, e3⟩, kk⟩ := Jvm.LawKit.callS X C.1 C.2.2.2.1 (mv C.2.2.1 w1) (mv C.2.2.1 w2) (mv C.2.2.1 w3) (mv C.2.2.1 w4) hy (backOf (W := W) (Q := fun v h' L => (v = none ∧ h' = h) ∧ Fr n0 L) (hM []) C.2.2.1 w4 w3 hf hlo) (g := mkF m pc ls st) rfl (by rw [C.2.2.2.2.1]; exact hsz) (argsL := argsL) (rest := rest) (lenOf hpd hlen) hst (by show 2 * 0 + _ ≤ _; omega) (C.d hd) (fun _ _ => ⟨rfl, e0, bc, bs⟩)
  dsimp only [Pt.U, Pt.locs, Pt.cells, Pt.slots] at X' e1 e2 e3 kk hQ
  subst e1 e2 e3
  exact ⟨T', _, ⟨X', Fr.app N0 hL, hQ, bc, bs⟩, kk⟩
theorem OW.init (C : OC p s m meth c Z own nm bytes ml ret) {i : Nat} {y : MethodName} {bytes' : ByteArray} {ml' W : Nat} {r0 : Option FieldType} {rm : Room} {argsL rest : List Value} {ps : List FieldType} {Q' : Option Value → Heap → Prop} {a : Addr}
    (w1 : (Cond.methodLink own i y).before a0 Z = true) (w2 : (Cond.instanceMethod y).before a0 Z = true) (w3 : (Cond.initialized y.cls).before a0 Z = true) (w4 : (Cond.code y bytes' ml' none).before a0 Z = true) (hyi : y.name = "<init>") (hy : y.cls ≠ "java/lang/invoke/MethodHandle" ∧ y.cls ≠ "java/lang/invoke/VarHandle")
    (hM : OM l Z y bytes' ml' none rm n0 h (.ref a :: argsL).toArray Q' rm.cells rm.slots) (hd : decode bytes pc = .ok (.invokespecial i, 3)) (hpd : parseMethodDescriptor y.desc = some ⟨ps, r0⟩) (hlen : argsL.length = ps.length) (hst : st = argsL.reverse ++ .ref a :: rest) (hsz : ls.size = ml) (hW : (rest.map fun v => v.category).sum = W)
    (hf : rm.frames + 1 ≤ R.frames) (hlo : W + (ml' + 11) + rm.locals ≤ R.locals) (hcl : cl + rm.cells ≤ R.cells) (hsl : sl + rm.slots ≤ R.slots) (hp : pc + 3 = pc')
    (k : ∀ v h', Q' v h' → OW p l e R s m args below meth c n0 Q K N h' (cl + rm.cells) (sl + rm.slots) (mkF m pc' ls (v.toList ++ rest))) : OW p l e R s m args below meth c n0 Q K N h cl sl (mkF m pc ls st) := fun T locs ⟨X, N0, e0, bc, bs⟩ => by
  subst hp
  obtain ⟨v, vm, ⟨T', L', cl', sl'⟩, -, X', ⟨Lc, ⟨hQ, hL⟩, e1, e2, e3⟩, kk⟩ := X.specialBack C.1 hyi C.2.2.2.1 (mv C.2.2.1 w1) (mv C.2.2.1 w2) (mv C.2.2.1 w4) hy (backOf (W := W) (Q := fun v h L => Q' v h ∧ Fr n0 L) (hM []) C.2.2.1 w4 w3 hf hlo) (g := mkF m pc ls st) rfl (by rw [C.2.2.2.2.1]; exact hsz) (Steps.refl _) (a := a) (argsL := argsL) (rest := rest) (lenOf hpd hlen) hst (by show 2 * 0 + _ ≤ _; omega) (C.d hd) (fun _ _ => ⟨rfl, e0, hcl, hsl⟩)
  dsimp only [Pt.U, Pt.locs, Pt.cells, Pt.slots] at X' e1 e2 e3 kk hQ
  subst e1 e2 e3
  obtain ⟨s₂, o, q, r⟩ := k v _ hQ T' _ ⟨X', Fr.app N0 hL, rfl, hcl, hsl⟩
  exact ⟨s₂, o, kk.trans q, r⟩
theorem OG.init (C : OC p s m meth c Z own nm bytes ml ret) {i : Nat} {y : MethodName} {bytes' : ByteArray} {ml' W fr lo : Nat} {r0 : Option FieldType} {argsL rest : List Value} {ps : List FieldType} {a : Addr}
    (w1 : (Cond.methodLink own i y).before a0 Z = true) (w2 : (Cond.instanceMethod y).before a0 Z = true) (w3 : (Cond.initialized y.cls).before a0 Z = true) (w4 : (Cond.code y bytes' ml' none).before a0 Z = true) (hyi : y.name = "<init>") (hy : y.cls ≠ "java/lang/invoke/MethodHandle" ∧ y.cls ≠ "java/lang/invoke/VarHandle")
    (hM : OM l Z y bytes' ml' none ⟨fr, 0, 0, lo⟩ n0 h (.ref a :: argsL).toArray (fun v h' => v = none ∧ h' = h) 0 0) (hd : decode bytes pc = .ok (.invokespecial i, 3)) (hpd : parseMethodDescriptor y.desc = some ⟨ps, r0⟩) (hlen : argsL.length = ps.length) (hst : st = argsL.reverse ++ .ref a :: rest) (hsz : ls.size = ml) (hW : (rest.map fun v => v.category).sum = W)
    (hf : fr + 1 ≤ R.frames) (hlo : W + (ml' + 11) + lo ≤ R.locals) (hp : pc + 3 = pc') :
    OG p l e R s m args below meth c n0 h (mkF m pc ls st) (mkF m pc' ls rest) := fun T locs cl sl ⟨X, N0, e0, bc, bs⟩ => by
  subst hp
  obtain ⟨v, vm, ⟨T', L', cl', sl'⟩, -, X', ⟨Lc, ⟨⟨rfl, hQ⟩, hL⟩, e1, e2, e3⟩, kk⟩ := X.specialBack C.1 hyi C.2.2.2.1 (mv C.2.2.1 w1) (mv C.2.2.1 w2) (mv C.2.2.1 w4) hy (backOf (W := W) (Q := fun v h' L => (v = none ∧ h' = h) ∧ Fr n0 L) (hM []) C.2.2.1 w4 w3 hf hlo) (g := mkF m pc ls st) rfl (by rw [C.2.2.2.2.1]; exact hsz) (Steps.refl _) (a := a) (argsL := argsL) (rest := rest) (lenOf hpd hlen) hst (by show 2 * 0 + _ ≤ _; omega) (C.d hd) (fun _ _ => ⟨rfl, e0, bc, bs⟩)
  dsimp only [Pt.U, Pt.locs, Pt.cells, Pt.slots] at X' e1 e2 e3 kk hQ
  subst e1 e2 e3
  exact ⟨T', _, ⟨X', Fr.app N0 hL, hQ, bc, bs⟩, fun t q => kk.trans q⟩
theorem OW.callV (C : OC p s m meth c Z own nm bytes ml ret) {i : Nat} {y : MethodName} {bytes' : ByteArray} {ml' W : Nat} {ret' r0 : Option FieldType} {rm : Room} {argsL rest : List Value} {ps : List FieldType} {Q' : Option Value → Heap → Prop} {a : Addr} {Cl : String}
    (w1 : (Cond.methodLink own i y).before a0 Z = true) (wd : (Cond.declares y).before a0 Z = true) (ws : (Cond.selects Cl y y).before a0 Z = true) (w2 : (Cond.instanceMethod y).before a0 Z = true) (w3 : (Cond.initialized y.cls).before a0 Z = true) (w4 : (Cond.code y bytes' ml' ret').before a0 Z = true) (hy : y.cls ≠ "java/lang/invoke/MethodHandle" ∧ y.cls ≠ "java/lang/invoke/VarHandle") (E : Exa Z h a Cl)
    (hM : OM l Z y bytes' ml' ret' rm n0 h (.ref a :: argsL).toArray Q' rm.cells rm.slots) (hd : decode bytes pc = .ok (.invokevirtual i, 3)) (hpd : parseMethodDescriptor y.desc = some ⟨ps, r0⟩) (hlen : argsL.length = ps.length) (hst : st = argsL.reverse ++ .ref a :: rest) (hsz : ls.size = ml) (hW : (rest.map fun v => v.category).sum = W)
    (hf : rm.frames + 1 ≤ R.frames) (hlo : W + (ml' + 11) + rm.locals ≤ R.locals) (hcl : cl + rm.cells ≤ R.cells) (hsl : sl + rm.slots ≤ R.slots) (hp : pc + 3 = pc')
    (k : ∀ v h', Q' v h' → OW p l e R s m args below meth c n0 Q K N h' (cl + rm.cells) (sl + rm.slots) (mkF m pc' ls (v.toList ++ rest))) : OW p l e R s m args below meth c n0 Q K N h cl sl (mkF m pc ls st) := fun T locs ⟨X, N0, e0, bc, bs⟩ => by
  subst hp
  obtain ⟨cq, kq, qa, qb, qc⟩ := isOf C.2.2.1 e0 E
  obtain ⟨v, vm, ⟨T', L', cl', sl'⟩, -, X', ⟨Lc, ⟨hQ, hL⟩, e1, e2, e3⟩, kk⟩ := X.virtualBack C.1 C.2.2.2.1 (mv C.2.2.1 w1) (mv C.2.2.1 wd) (notFace_of_selects (args := #[]) (mv C.2.2.1 ws)) (mv C.2.2.1 ws) (mv C.2.2.1 w2) hy (backOf (W := W) (Q := fun v h L => Q' v h ∧ Fr n0 L) (hM []) C.2.2.1 w4 w3 hf hlo) qa qc (g := mkF m pc ls st) rfl (by rw [C.2.2.2.2.1]; exact hsz) (Steps.refl _) (argsL := argsL) (rest := rest) (lenOf hpd hlen) hst (by show 2 * 0 + _ ≤ _; omega) (C.d hd) (fun _ _ => ⟨rfl, e0, hcl, hsl⟩)
  dsimp only [Pt.U, Pt.locs, Pt.cells, Pt.slots] at X' e1 e2 e3 kk hQ
  subst e1 e2 e3
  obtain ⟨s₂, o, q, r⟩ := k v _ hQ T' _ ⟨X', Fr.app N0 hL, rfl, hcl, hsl⟩
  exact ⟨s₂, o, kk.trans q, r⟩
theorem OG.callV (C : OC p s m meth c Z own nm bytes ml ret) {i : Nat} {y : MethodName} {bytes' : ByteArray} {ml' W fr lo : Nat} {ret' r0 : Option FieldType} {argsL rest : List Value} {ps : List FieldType} {w : Value} {a : Addr} {Cl : String}
    (w1 : (Cond.methodLink own i y).before a0 Z = true) (wd : (Cond.declares y).before a0 Z = true) (ws : (Cond.selects Cl y y).before a0 Z = true) (w2 : (Cond.instanceMethod y).before a0 Z = true) (w3 : (Cond.initialized y.cls).before a0 Z = true) (w4 : (Cond.code y bytes' ml' ret').before a0 Z = true) (hy : y.cls ≠ "java/lang/invoke/MethodHandle" ∧ y.cls ≠ "java/lang/invoke/VarHandle") (E : Exa Z h a Cl)
    (hM : OM l Z y bytes' ml' ret' ⟨fr, 0, 0, lo⟩ n0 h (.ref a :: argsL).toArray (fun v h' => v = some w ∧ h' = h) 0 0) (hd : decode bytes pc = .ok (.invokevirtual i, 3)) (hpd : parseMethodDescriptor y.desc = some ⟨ps, r0⟩) (hlen : argsL.length = ps.length) (hst : st = argsL.reverse ++ .ref a :: rest) (hsz : ls.size = ml) (hW : (rest.map fun v => v.category).sum = W)
    (hf : fr + 1 ≤ R.frames) (hlo : W + (ml' + 11) + lo ≤ R.locals) (hp : pc + 3 = pc') :
    OG p l e R s m args below meth c n0 h (mkF m pc ls st) (mkF m pc' ls (w :: rest)) := fun T locs cl sl ⟨X, N0, e0, bc, bs⟩ => by
  subst hp
  obtain ⟨cq, kq, qa, qb, qc⟩ := isOf C.2.2.1 e0 E
  obtain ⟨v, vm, ⟨T', L', cl', sl'⟩, -, X', ⟨Lc, ⟨⟨rfl, hQ⟩, hL⟩, e1, e2, e3⟩, kk⟩ := X.virtualBack C.1 C.2.2.2.1 (mv C.2.2.1 w1) (mv C.2.2.1 wd) (notFace_of_selects (args := #[]) (mv C.2.2.1 ws)) (mv C.2.2.1 ws) (mv C.2.2.1 w2) hy (backOf (W := W) (Q := fun v h' L => (v = some w ∧ h' = h) ∧ Fr n0 L) (hM []) C.2.2.1 w4 w3 hf hlo) qa qc (g := mkF m pc ls st) rfl (by rw [C.2.2.2.2.1]; exact hsz) (Steps.refl _) (argsL := argsL) (rest := rest) (lenOf hpd hlen) hst (by show 2 * 0 + _ ≤ _; omega) (C.d hd) (fun _ _ => ⟨rfl, e0, bc, bs⟩)
  dsimp only [Pt.U, Pt.locs, Pt.cells, Pt.slots] at X' e1 e2 e3 kk hQ
  subst e1 e2 e3
  exact ⟨T', _, ⟨X', Fr.app N0 hL, hQ, bc, bs⟩, fun t q => kk.trans q⟩
theorem OG.callI (C : OC p s m meth c Z own nm bytes ml ret) {i cnt : Nat} {xi y : MethodName} {bytes' : ByteArray} {ml' W fr lo : Nat} {ret' r0 : Option FieldType} {argsL rest : List Value} {ps : List FieldType} {w : Value} {a : Addr} {Cl : String}
    (w1 : (Cond.methodLink own i xi).before a0 Z = true) (wd : (Cond.declares xi).before a0 Z = true) (wf : (Cond.interfaceMethod xi.cls xi.cls xi.name xi.desc).before a0 Z = true) (ws : (Cond.selects Cl xi y).before a0 Z = true) (w2 : (Cond.instanceMethod y).before a0 Z = true) (wp : (Cond.publicMethod y).before a0 Z = true) (wu : (Cond.unhidden Cl xi.name xi.desc).before a0 Z = true) (wc : (Cond.castable Cl xi.cls).before a0 Z = true)
    (w3 : (Cond.initialized y.cls).before a0 Z = true) (w4 : (Cond.code y bytes' ml' ret').before a0 Z = true) (hfa : ((Cond.interfaceMethod xi.cls xi.cls xi.name xi.desc).onTables && (Cond.interfaceMethod xi.cls xi.cls xi.name xi.desc).keepsFace) = true) (hy : xi.cls ≠ "java/lang/invoke/MethodHandle" ∧ xi.cls ≠ "java/lang/invoke/VarHandle") (E : Exa Z h a Cl)
    (hM : OM l Z y bytes' ml' ret' ⟨fr, 0, 0, lo⟩ n0 h (.ref a :: argsL).toArray (fun v h' => v = some w ∧ h' = h) 0 0) (hd : decode bytes pc = .ok (.invokeinterface i cnt, 5)) (hpd : parseMethodDescriptor xi.desc = some ⟨ps, r0⟩) (hlen : argsL.length = ps.length) (hst : st = argsL.reverse ++ .ref a :: rest) (hsz : ls.size = ml) (hW : (rest.map fun v => v.category).sum = W)
    (hf : fr + 1 ≤ R.frames) (hlo : W + (ml' + 11) + lo ≤ R.locals) (hp : pc + 5 = pc') :
    OG p l e R s m args below meth c n0 h (mkF m pc ls st) (mkF m pc' ls (w :: rest)) := fun T locs cl sl ⟨X, N0, e0, bc, bs⟩ => by
  subst hp
  obtain ⟨cq, kq, qa, qb, qc⟩ := isOf C.2.2.1 e0 E
  obtain ⟨v, vm, ⟨T', L', cl', sl'⟩, -, X', ⟨Lc, ⟨⟨rfl, hQ⟩, hL⟩, e1, e2, e3⟩, kk⟩ := X.interfaceBack C.1 C.2.2.2.1 (mv C.2.2.1 w1) (mv C.2.2.1 wd) (mv C.2.2.1 wf hfa) (mv C.2.2.1 ws) (mv C.2.2.1 w2) (mv C.2.2.1 wp) (mv C.2.2.1 wu) (mv C.2.2.1 wc) hy (backOf (W := W) (Q := fun v h' L => (v = some w ∧ h' = h) ∧ Fr n0 L) (hM []) C.2.2.1 w4 w3 hf hlo) qa qb qc (g := mkF m pc ls st) rfl (by rw [C.2.2.2.2.1]; exact hsz) (Steps.refl _) (argsL := argsL) (rest := rest) (lenOf hpd hlen) hst (by show 2 * 0 + _ ≤ _; omega) (C.d hd) (fun _ _ => ⟨rfl, e0, bc, bs⟩)
  dsimp only [Pt.U, Pt.locs, Pt.cells, Pt.slots] at X' e1 e2 e3 kk hQ
  subst e1 e2 e3
  exact ⟨T', _, ⟨X', Fr.app N0 hL, hQ, bc, bs⟩, fun t q => kk.trans q⟩
theorem own_nb (c : Int32) : nar .byte c.toInt8.toInt32 = c.toInt8.toInt32 := by
  show c.toInt8.toInt32.toInt8.toInt32 = _
  have q := c_i2b c
  have q2 := c_i2b c.toInt8.toInt32
  apply Int32.toInt_inj.mp
  omega
theorem Exa.pl {h : Heap} {a : Addr} {C : String} (F : Exa Z h a C) : ∃ c : Cell, h[a]? = some c ∧ c.vm.isStatics = false := by obtain ⟨c, _, h1, -, -, h4, -⟩ := F; exact ⟨c, h1, h4⟩
theorem OA.pl {a : Addr} {ty : FieldType} {vs : List Value} (F : OA Z h a ty vs) : ∃ c : Cell, h[a]? = some c ∧ c.vm.isStatics = false := by obtain ⟨c, A, -⟩ := F; exact ⟨c, A.1, A.plain⟩
theorem OPl.ext {h h' : Heap} {a : Addr} (F : ∃ c : Cell, h[a]? = some c ∧ c.vm.isStatics = false) (E : Ext h h') : ∃ c : Cell, h'[a]? = some c ∧ c.vm.isStatics = false := by obtain ⟨c, h1, h2⟩ := F; exact ⟨c, E.2 _ _ h1, h2⟩
theorem OPl.wr {h h' : Heap} {a b : Addr} {k : Nat} {v : Value} (F : ∃ c : Cell, h[a]? = some c ∧ c.vm.isStatics = false) (W : Wr h h' b k v) : ∃ c : Cell, h'[a]? = some c ∧ c.vm.isStatics = false := by
  obtain ⟨c, h1, h2⟩ := F
  obtain ⟨c', e1, -, e3, -⟩ := wr_at W h1
  exact ⟨c', e1, by rw [e3]; exact h2⟩
theorem OPl.keep {h h' : Heap} {a : Addr} {ws : List Addr} (F : ∃ c : Cell, h[a]? = some c ∧ c.vm.isStatics = false) (K : Keep h h' ws) : ∃ c : Cell, h'[a]? = some c ∧ c.vm.isStatics = false := by
  obtain ⟨c, h1, h2⟩ := F
  obtain ⟨c', e1, -, e3, -⟩ := K.2.2 _ _ h1
  exact ⟨c', e1, by rw [e3]; exact h2⟩
theorem Sta.kp {h h' : Heap} {C n d : String} {v : Value} {ws : List Addr} (F : Sta Z h C n d v) (K : Keep h h' ws) (q : ∀ a ∈ ws, ∃ c : Cell, h[a]? = some c ∧ c.vm.isStatics = false) : Sta Z h' C n d v := by
  obtain ⟨cf, i, k, f, st, cell, h1, h2, h3, h4, h5, h6, h7⟩ := F
  refine ⟨cf, i, k, f, st, cell, h1, h2, h3, h4, K.2.1 st cell h5 (fun hm => ?_), h6, h7⟩
  obtain ⟨c, e1, e2⟩ := q st hm
  cases h5.symm.trans e1
  rw [h6] at e2; cases e2
theorem OW.join {P : Value → Heap → Prop} {f : Value → JFrame} {cl' sl' : Nat} (b : (∀ v h', P v h' → OW p l e R s m args below meth c n0 Q K N h' cl' sl' (f v)) → OW p l e R s m args below meth c n0 Q K N h cl sl g) (k : ∀ v h', P v h' → OW p l e R s m args below meth c n0 Q K N h' cl' sl' (f v)) : OW p l e R s m args below meth c n0 Q K N h cl sl g := b k
theorem own_nr {v : Value} {t : FieldType} (q : v.isRef = true) (ht : t.isReference = true) : narrow t v = v ∧ fits t v = true := by
  rcases ref_cases q with rfl | ⟨_, rfl⟩ <;> cases t <;> first | (cases ht; done) | exact ⟨rfl, rfl⟩
/-! what a branch over two longs asks -/
theorem tltL {x y : Int64} (q : x < y) : ifCond.holds .lt (lcmpW x y) = true ∧ ifCond.holds .ge (lcmpW x y) = false ∧ ifCond.holds .gt (lcmpW y x) = true ∧ ifCond.holds .le (lcmpW y x) = false := by
  have a := (lw_lt x y).mpr q
  have b := (lw_gt y x).mpr q
  rw [if0, if0, if0, if0]; exact ⟨(tlt a).1, (tlt a).2.1, (tlt b).2.2.1, (tlt b).2.2.2⟩
theorem fltL {x y : Int64} (q : ¬ x < y) : ifCond.holds .lt (lcmpW x y) = false ∧ ifCond.holds .ge (lcmpW x y) = true ∧ ifCond.holds .gt (lcmpW y x) = false ∧ ifCond.holds .le (lcmpW y x) = true := by
  have a := fun z => q ((lw_lt x y).mp z)
  have b := fun z => q ((lw_gt y x).mp z)
  rw [if0, if0, if0, if0]; exact ⟨(flt a).1, (flt a).2.1, (flt b).2.2.1, (flt b).2.2.2⟩
theorem teqL {x y : Int64} (q : x = y) : ifCond.holds .eq (lcmpW x y) = true ∧ ifCond.holds .ne (lcmpW x y) = false := by
  have a := (lw_eq x y).mpr q
  rw [if0, if0]; exact teq a
theorem feqL {x y : Int64} (q : ¬ x = y) : ifCond.holds .eq (lcmpW x y) = false ∧ ifCond.holds .ne (lcmpW x y) = true := by
  have a := fun z => q ((lw_eq x y).mp z)
  rw [if0, if0]; exact feq a
theorem tlt0 {x y : Int32} (q : x < y) : if_icmp.holds .lt x y = true ∧ if_icmp.holds .ge x y = false ∧ if_icmp.holds .gt y x = true ∧ if_icmp.holds .le y x = false := tlt q
end Own
end Jvm.RoadKit
namespace Jvm.Pilot.@@N@@
open Jvm Jvm.ClassFile Sem Op Lib Jvm.Free Jvm.Stand Jvm.LawKit Jvm.RoadKit Bundle Jvm.Pilot.@@N@@.Jvm.D
abbrev HW (a0 : Array Value) (Z : State) : Prop := ∀ d ∈ tables_1, d.before a0 Z = true
theorem w0 {a0 : Array Value} {Z : State} (hw : HW a0 Z) : (Jvm.Cond.arrayClass Jvm.ClassFile.FieldType.char).before a0 Z = true := hw _ (List.mem_of_getElem? (i := 0) rfl)
theorem w1 {a0 : Array Value} {Z : State} (hw : HW a0 Z) : (Jvm.Cond.methodLink "com/example/kartoteka/kartoteka/model/StoredRecordIsControlPinLaw" (7 : Nat) ({ cls := "com/example/kartoteka/kartoteka/model/StoredRecordIsControlPinLaw", name := "pick", desc := "(I)C" } : Jvm.MethodName)).before a0 Z = true := hw _ (List.mem_of_getElem? (i := 1) rfl)
theorem w2 {a0 : Array Value} {Z : State} (hw : HW a0 Z) : (Jvm.Cond.static ({ cls := "com/example/kartoteka/kartoteka/model/StoredRecordIsControlPinLaw", name := "pick", desc := "(I)C" } : Jvm.MethodName)).before a0 Z = true := hw _ (List.mem_of_getElem? (i := 2) rfl)
theorem w3 {a0 : Array Value} {Z : State} (hw : HW a0 Z) : (Jvm.Cond.initialized "com/example/kartoteka/kartoteka/model/StoredRecordIsControlPinLaw").before a0 Z = true := hw _ (List.mem_of_getElem? (i := 3) rfl)
theorem w4 {a0 : Array Value} {Z : State} (hw : HW a0 Z) : (Jvm.Cond.code ({ cls := "com/example/kartoteka/kartoteka/model/StoredRecordIsControlPinLaw", name := "pick", desc := "(I)C" } : Jvm.MethodName) method_2_code (1 : Nat) (Option.some Jvm.ClassFile.FieldType.char)).before a0 Z = true := hw _ (List.mem_of_getElem? (i := 4) rfl)
theorem w5 {a0 : Array Value} {Z : State} (hw : HW a0 Z) : (Jvm.Cond.classLink "com/example/kartoteka/kartoteka/model/StoredRecordIsControlPinLaw" (13 : Nat) "com/example/kartoteka/kartoteka/model/StoredRecord").before a0 Z = true := hw _ (List.mem_of_getElem? (i := 5) rfl)
theorem w6 {a0 : Array Value} {Z : State} (hw : HW a0 Z) : (Jvm.Cond.instantiable "com/example/kartoteka/kartoteka/model/StoredRecord" (5 : Nat)).before a0 Z = true := hw _ (List.mem_of_getElem? (i := 6) rfl)
theorem w7 {a0 : Array Value} {Z : State} (hw : HW a0 Z) : (Jvm.Cond.initialized "com/example/kartoteka/kartoteka/model/StoredRecord").before a0 Z = true := hw _ (List.mem_of_getElem? (i := 7) rfl)
theorem w8 {a0 : Array Value} {Z : State} (hw : HW a0 Z) : (Jvm.Cond.methodLink "com/example/kartoteka/kartoteka/model/StoredRecordIsControlPinLaw" (15 : Nat) ({ cls := "com/example/kartoteka/kartoteka/model/StoredRecord", name := "<init>", desc := "(I)V" } : Jvm.MethodName)).before a0 Z = true := hw _ (List.mem_of_getElem? (i := 8) rfl)
theorem w9 {a0 : Array Value} {Z : State} (hw : HW a0 Z) : (Jvm.Cond.instanceMethod ({ cls := "com/example/kartoteka/kartoteka/model/StoredRecord", name := "<init>", desc := "(I)V" } : Jvm.MethodName)).before a0 Z = true := hw _ (List.mem_of_getElem? (i := 9) rfl)
theorem w10 {a0 : Array Value} {Z : State} (hw : HW a0 Z) : (Jvm.Cond.code ({ cls := "com/example/kartoteka/kartoteka/model/StoredRecord", name := "<init>", desc := "(I)V" } : Jvm.MethodName) prog_73_method_1_code (2 : Nat) (Option.none : Option Jvm.ClassFile.FieldType)).before a0 Z = true := hw _ (List.mem_of_getElem? (i := 10) rfl)
theorem w11 {a0 : Array Value} {Z : State} (hw : HW a0 Z) : (Jvm.Cond.methodLink "com/example/kartoteka/kartoteka/model/StoredRecord" (3 : Nat) ({ cls := "java/lang/Object", name := "<init>", desc := "()V" } : Jvm.MethodName)).before a0 Z = true := hw _ (List.mem_of_getElem? (i := 11) rfl)
theorem w12 {a0 : Array Value} {Z : State} (hw : HW a0 Z) : (Jvm.Cond.instanceMethod ({ cls := "java/lang/Object", name := "<init>", desc := "()V" } : Jvm.MethodName)).before a0 Z = true := hw _ (List.mem_of_getElem? (i := 12) rfl)
theorem w13 {a0 : Array Value} {Z : State} (hw : HW a0 Z) : (Jvm.Cond.code ({ cls := "java/lang/Object", name := "<init>", desc := "()V" } : Jvm.MethodName) object_method_1_code (1 : Nat) (Option.none : Option Jvm.ClassFile.FieldType)).before a0 Z = true := hw _ (List.mem_of_getElem? (i := 13) rfl)
theorem w14 {a0 : Array Value} {Z : State} (hw : HW a0 Z) : (Jvm.Cond.arrayClass Jvm.ClassFile.FieldType.int).before a0 Z = true := hw _ (List.mem_of_getElem? (i := 14) rfl)
theorem w15 {a0 : Array Value} {Z : State} (hw : HW a0 Z) : (Jvm.Cond.fieldLink "com/example/kartoteka/kartoteka/model/StoredRecord" (11 : Nat) "com/example/kartoteka/kartoteka/model/StoredRecord" "tags" "[I").before a0 Z = true := hw _ (List.mem_of_getElem? (i := 15) rfl)
theorem w16 {a0 : Array Value} {Z : State} (hw : HW a0 Z) : (Jvm.Cond.lays "com/example/kartoteka/kartoteka/model/StoredRecord" "com/example/kartoteka/kartoteka/model/StoredRecord" "tags" "[I").before a0 Z = true := hw _ (List.mem_of_getElem? (i := 16) rfl)
theorem w17 {a0 : Array Value} {Z : State} (hw : HW a0 Z) : (Jvm.Cond.fieldLink "com/example/kartoteka/kartoteka/model/StoredRecord" (15 : Nat) "com/example/kartoteka/kartoteka/model/StoredRecord" "starts" "[I").before a0 Z = true := hw _ (List.mem_of_getElem? (i := 17) rfl)
theorem w18 {a0 : Array Value} {Z : State} (hw : HW a0 Z) : (Jvm.Cond.lays "com/example/kartoteka/kartoteka/model/StoredRecord" "com/example/kartoteka/kartoteka/model/StoredRecord" "starts" "[I").before a0 Z = true := hw _ (List.mem_of_getElem? (i := 18) rfl)
theorem w19 {a0 : Array Value} {Z : State} (hw : HW a0 Z) : (Jvm.Cond.fieldLink "com/example/kartoteka/kartoteka/model/StoredRecord" (18 : Nat) "com/example/kartoteka/kartoteka/model/StoredRecord" "lengths" "[I").before a0 Z = true := hw _ (List.mem_of_getElem? (i := 19) rfl)
theorem w20 {a0 : Array Value} {Z : State} (hw : HW a0 Z) : (Jvm.Cond.lays "com/example/kartoteka/kartoteka/model/StoredRecord" "com/example/kartoteka/kartoteka/model/StoredRecord" "lengths" "[I").before a0 Z = true := hw _ (List.mem_of_getElem? (i := 20) rfl)
theorem w21 {a0 : Array Value} {Z : State} (hw : HW a0 Z) : (Jvm.Cond.arrayClass Jvm.ClassFile.FieldType.byte).before a0 Z = true := hw _ (List.mem_of_getElem? (i := 21) rfl)
theorem w22 {a0 : Array Value} {Z : State} (hw : HW a0 Z) : (Jvm.Cond.fieldLink "com/example/kartoteka/kartoteka/model/StoredRecord" (21 : Nat) "com/example/kartoteka/kartoteka/model/StoredRecord" "bytes" "[B").before a0 Z = true := hw _ (List.mem_of_getElem? (i := 22) rfl)
theorem w23 {a0 : Array Value} {Z : State} (hw : HW a0 Z) : (Jvm.Cond.lays "com/example/kartoteka/kartoteka/model/StoredRecord" "com/example/kartoteka/kartoteka/model/StoredRecord" "bytes" "[B").before a0 Z = true := hw _ (List.mem_of_getElem? (i := 23) rfl)
theorem w24 {a0 : Array Value} {Z : State} (hw : HW a0 Z) : (Jvm.Cond.methodLink "com/example/kartoteka/kartoteka/model/StoredRecordIsControlPinLaw" (18 : Nat) ({ cls := "com/example/kartoteka/kartoteka/model/StoredRecord", name := "room", desc := "(I)[B" } : Jvm.MethodName)).before a0 Z = true := hw _ (List.mem_of_getElem? (i := 24) rfl)
theorem w25 {a0 : Array Value} {Z : State} (hw : HW a0 Z) : (Jvm.Cond.declares ({ cls := "com/example/kartoteka/kartoteka/model/StoredRecord", name := "room", desc := "(I)[B" } : Jvm.MethodName)).before a0 Z = true := hw _ (List.mem_of_getElem? (i := 25) rfl)
theorem w26 {a0 : Array Value} {Z : State} (hw : HW a0 Z) : (Jvm.Cond.instanceMethod ({ cls := "com/example/kartoteka/kartoteka/model/StoredRecord", name := "room", desc := "(I)[B" } : Jvm.MethodName)).before a0 Z = true := hw _ (List.mem_of_getElem? (i := 26) rfl)
theorem w27 {a0 : Array Value} {Z : State} (hw : HW a0 Z) : (Jvm.Cond.selects "com/example/kartoteka/kartoteka/model/StoredRecord" ({ cls := "com/example/kartoteka/kartoteka/model/StoredRecord", name := "room", desc := "(I)[B" } : Jvm.MethodName) ({ cls := "com/example/kartoteka/kartoteka/model/StoredRecord", name := "room", desc := "(I)[B" } : Jvm.MethodName)).before a0 Z = true := hw _ (List.mem_of_getElem? (i := 27) rfl)
theorem w28 {a0 : Array Value} {Z : State} (hw : HW a0 Z) : (Jvm.Cond.code ({ cls := "com/example/kartoteka/kartoteka/model/StoredRecord", name := "room", desc := "(I)[B" } : Jvm.MethodName) prog_73_method_4_code (2 : Nat) (Option.some (Jvm.ClassFile.FieldType.array Jvm.ClassFile.FieldType.byte))).before a0 Z = true := hw _ (List.mem_of_getElem? (i := 28) rfl)
theorem w29 {a0 : Array Value} {Z : State} (hw : HW a0 Z) : (Jvm.Cond.methodLink "com/example/kartoteka/kartoteka/model/StoredRecordIsControlPinLaw" (22 : Nat) ({ cls := "com/example/kartoteka/kartoteka/model/StoredRecord", name := "add", desc := "(III)V" } : Jvm.MethodName)).before a0 Z = true := hw _ (List.mem_of_getElem? (i := 29) rfl)
theorem w30 {a0 : Array Value} {Z : State} (hw : HW a0 Z) : (Jvm.Cond.declares ({ cls := "com/example/kartoteka/kartoteka/model/StoredRecord", name := "add", desc := "(III)V" } : Jvm.MethodName)).before a0 Z = true := hw _ (List.mem_of_getElem? (i := 30) rfl)
theorem w31 {a0 : Array Value} {Z : State} (hw : HW a0 Z) : (Jvm.Cond.instanceMethod ({ cls := "com/example/kartoteka/kartoteka/model/StoredRecord", name := "add", desc := "(III)V" } : Jvm.MethodName)).before a0 Z = true := hw _ (List.mem_of_getElem? (i := 31) rfl)
theorem w32 {a0 : Array Value} {Z : State} (hw : HW a0 Z) : (Jvm.Cond.selects "com/example/kartoteka/kartoteka/model/StoredRecord" ({ cls := "com/example/kartoteka/kartoteka/model/StoredRecord", name := "add", desc := "(III)V" } : Jvm.MethodName) ({ cls := "com/example/kartoteka/kartoteka/model/StoredRecord", name := "add", desc := "(III)V" } : Jvm.MethodName)).before a0 Z = true := hw _ (List.mem_of_getElem? (i := 32) rfl)
theorem w33 {a0 : Array Value} {Z : State} (hw : HW a0 Z) : (Jvm.Cond.code ({ cls := "com/example/kartoteka/kartoteka/model/StoredRecord", name := "add", desc := "(III)V" } : Jvm.MethodName) prog_73_method_6_code (5 : Nat) (Option.none : Option Jvm.ClassFile.FieldType)).before a0 Z = true := hw _ (List.mem_of_getElem? (i := 33) rfl)
theorem w34 {a0 : Array Value} {Z : State} (hw : HW a0 Z) : (Jvm.Cond.fieldLink "com/example/kartoteka/kartoteka/model/StoredRecord" (99 : Nat) "com/example/kartoteka/kartoteka/model/StoredRecord" "fields" "I").before a0 Z = true := hw _ (List.mem_of_getElem? (i := 34) rfl)
theorem w35 {a0 : Array Value} {Z : State} (hw : HW a0 Z) : (Jvm.Cond.lays "com/example/kartoteka/kartoteka/model/StoredRecord" "com/example/kartoteka/kartoteka/model/StoredRecord" "fields" "I").before a0 Z = true := hw _ (List.mem_of_getElem? (i := 35) rfl)
theorem w36 {a0 : Array Value} {Z : State} (hw : HW a0 Z) : (Jvm.Cond.classLink "com/example/kartoteka/kartoteka/model/StoredRecordIsControlPinLaw" (26 : Nat) "java/lang/String").before a0 Z = true := hw _ (List.mem_of_getElem? (i := 36) rfl)
theorem w37 {a0 : Array Value} {Z : State} (hw : HW a0 Z) : (Jvm.Cond.instantiable "java/lang/String" (4 : Nat)).before a0 Z = true := hw _ (List.mem_of_getElem? (i := 37) rfl)
theorem w38 {a0 : Array Value} {Z : State} (hw : HW a0 Z) : (Jvm.Cond.initialized "java/lang/String").before a0 Z = true := hw _ (List.mem_of_getElem? (i := 38) rfl)
theorem w39 {a0 : Array Value} {Z : State} (hw : HW a0 Z) : (Jvm.Cond.methodLink "com/example/kartoteka/kartoteka/model/StoredRecordIsControlPinLaw" (28 : Nat) ({ cls := "java/lang/String", name := "<init>", desc := "([C)V" } : Jvm.MethodName)).before a0 Z = true := hw _ (List.mem_of_getElem? (i := 39) rfl)
theorem w40 {a0 : Array Value} {Z : State} (hw : HW a0 Z) : (Jvm.Cond.instanceMethod ({ cls := "java/lang/String", name := "<init>", desc := "([C)V" } : Jvm.MethodName)).before a0 Z = true := hw _ (List.mem_of_getElem? (i := 40) rfl)
theorem w41 {a0 : Array Value} {Z : State} (hw : HW a0 Z) : (Jvm.Cond.code ({ cls := "java/lang/String", name := "<init>", desc := "([C)V" } : Jvm.MethodName) jdk_42_method_3_code (2 : Nat) (Option.none : Option Jvm.ClassFile.FieldType)).before a0 Z = true := hw _ (List.mem_of_getElem? (i := 41) rfl)
theorem w42 {a0 : Array Value} {Z : State} (hw : HW a0 Z) : (Jvm.Cond.methodLink "java/lang/String" (27 : Nat) ({ cls := "java/lang/String", name := "<init>", desc := "([CIILjava/lang/Void;)V" } : Jvm.MethodName)).before a0 Z = true := hw _ (List.mem_of_getElem? (i := 42) rfl)
theorem w43 {a0 : Array Value} {Z : State} (hw : HW a0 Z) : (Jvm.Cond.instanceMethod ({ cls := "java/lang/String", name := "<init>", desc := "([CIILjava/lang/Void;)V" } : Jvm.MethodName)).before a0 Z = true := hw _ (List.mem_of_getElem? (i := 43) rfl)
theorem w45 {a0 : Array Value} {Z : State} (hw : HW a0 Z) : (Jvm.Cond.code ({ cls := "java/lang/String", name := "<init>", desc := "([CIILjava/lang/Void;)V" } : Jvm.MethodName) jdk_42_method_149_code (6 : Nat) (Option.none : Option Jvm.ClassFile.FieldType)).before a0 Z = true := hw _ (List.mem_of_getElem? (i := 45) rfl)
theorem w46 {a0 : Array Value} {Z : State} (hw : HW a0 Z) : (Jvm.Cond.methodLink "java/lang/String" (1 : Nat) ({ cls := "java/lang/Object", name := "<init>", desc := "()V" } : Jvm.MethodName)).before a0 Z = true := hw _ (List.mem_of_getElem? (i := 46) rfl)
theorem w47 {a0 : Array Value} {Z : State} (hw : HW a0 Z) : (Jvm.Cond.fieldLink "java/lang/String" (38 : Nat) "java/lang/String" "COMPACT_STRINGS" "Z").before a0 Z = true := hw _ (List.mem_of_getElem? (i := 47) rfl)
theorem w48 {a0 : Array Value} {Z : State} (hw : HW a0 Z) : (Jvm.Cond.methodLink "java/lang/String" (177 : Nat) ({ cls := "java/lang/StringUTF16", name := "compress", desc := "([CII)[B" } : Jvm.MethodName)).before a0 Z = true := hw _ (List.mem_of_getElem? (i := 48) rfl)
theorem w49 {a0 : Array Value} {Z : State} (hw : HW a0 Z) : (Jvm.Cond.static ({ cls := "java/lang/StringUTF16", name := "compress", desc := "([CII)[B" } : Jvm.MethodName)).before a0 Z = true := hw _ (List.mem_of_getElem? (i := 49) rfl)
theorem w50 {a0 : Array Value} {Z : State} (hw : HW a0 Z) : (Jvm.Cond.initialized "java/lang/StringUTF16").before a0 Z = true := hw _ (List.mem_of_getElem? (i := 50) rfl)
theorem w51 {a0 : Array Value} {Z : State} (hw : HW a0 Z) : (Jvm.Cond.code ({ cls := "java/lang/StringUTF16", name := "compress", desc := "([CII)[B" } : Jvm.MethodName) jdk_52_method_16_code (6 : Nat) (Option.some (Jvm.ClassFile.FieldType.array Jvm.ClassFile.FieldType.byte))).before a0 Z = true := hw _ (List.mem_of_getElem? (i := 51) rfl)
theorem w52 {a0 : Array Value} {Z : State} (hw : HW a0 Z) : (Jvm.Cond.methodLink "java/lang/StringUTF16" (115 : Nat) ({ cls := "java/lang/StringUTF16", name := "compress", desc := "([CI[BII)I" } : Jvm.MethodName)).before a0 Z = true := hw _ (List.mem_of_getElem? (i := 52) rfl)
theorem w53 {a0 : Array Value} {Z : State} (hw : HW a0 Z) : (Jvm.Cond.static ({ cls := "java/lang/StringUTF16", name := "compress", desc := "([CI[BII)I" } : Jvm.MethodName)).before a0 Z = true := hw _ (List.mem_of_getElem? (i := 53) rfl)
theorem w54 {a0 : Array Value} {Z : State} (hw : HW a0 Z) : (Jvm.Cond.code ({ cls := "java/lang/StringUTF16", name := "compress", desc := "([CI[BII)I" } : Jvm.MethodName) jdk_52_method_21_code (7 : Nat) (Option.some Jvm.ClassFile.FieldType.int)).before a0 Z = true := hw _ (List.mem_of_getElem? (i := 54) rfl)
theorem w55 {a0 : Array Value} {Z : State} (hw : HW a0 Z) : (Jvm.Cond.methodLink "java/lang/String" (47 : Nat) ({ cls := "java/lang/StringUTF16", name := "coderFromArrayLen", desc := "([BI)B" } : Jvm.MethodName)).before a0 Z = true := hw _ (List.mem_of_getElem? (i := 55) rfl)
theorem w56 {a0 : Array Value} {Z : State} (hw : HW a0 Z) : (Jvm.Cond.static ({ cls := "java/lang/StringUTF16", name := "coderFromArrayLen", desc := "([BI)B" } : Jvm.MethodName)).before a0 Z = true := hw _ (List.mem_of_getElem? (i := 56) rfl)
theorem w57 {a0 : Array Value} {Z : State} (hw : HW a0 Z) : (Jvm.Cond.code ({ cls := "java/lang/StringUTF16", name := "coderFromArrayLen", desc := "([BI)B" } : Jvm.MethodName) jdk_52_method_15_code (2 : Nat) (Option.some Jvm.ClassFile.FieldType.byte)).before a0 Z = true := hw _ (List.mem_of_getElem? (i := 57) rfl)
theorem w58 {a0 : Array Value} {Z : State} (hw : HW a0 Z) : (Jvm.Cond.fieldLink "java/lang/String" (15 : Nat) "java/lang/String" "coder" "B").before a0 Z = true := hw _ (List.mem_of_getElem? (i := 58) rfl)
theorem w59 {a0 : Array Value} {Z : State} (hw : HW a0 Z) : (Jvm.Cond.laysFinal "java/lang/String" "java/lang/String" "coder" "B").before a0 Z = true := hw _ (List.mem_of_getElem? (i := 59) rfl)
theorem w60 {a0 : Array Value} {Z : State} (hw : HW a0 Z) : (Jvm.Cond.fieldLink "java/lang/String" (9 : Nat) "java/lang/String" "value" "[B").before a0 Z = true := hw _ (List.mem_of_getElem? (i := 60) rfl)
theorem w61 {a0 : Array Value} {Z : State} (hw : HW a0 Z) : (Jvm.Cond.laysFinal "java/lang/String" "java/lang/String" "value" "[B").before a0 Z = true := hw _ (List.mem_of_getElem? (i := 61) rfl)
theorem w62 {a0 : Array Value} {Z : State} (hw : HW a0 Z) : (Jvm.Cond.methodLink "com/example/kartoteka/kartoteka/model/StoredRecordIsControlPinLaw" (31 : Nat) ({ cls := "com/example/kartoteka/kartoteka/model/Field", name := "isControlTag", desc := "(Ljava/lang/CharSequence;)Z" } : Jvm.MethodName)).before a0 Z = true := hw _ (List.mem_of_getElem? (i := 62) rfl)
theorem w63 {a0 : Array Value} {Z : State} (hw : HW a0 Z) : (Jvm.Cond.static ({ cls := "com/example/kartoteka/kartoteka/model/Field", name := "isControlTag", desc := "(Ljava/lang/CharSequence;)Z" } : Jvm.MethodName)).before a0 Z = true := hw _ (List.mem_of_getElem? (i := 63) rfl)
theorem w64 {a0 : Array Value} {Z : State} (hw : HW a0 Z) : (Jvm.Cond.initialized "com/example/kartoteka/kartoteka/model/Field").before a0 Z = true := hw _ (List.mem_of_getElem? (i := 64) rfl)
theorem w65 {a0 : Array Value} {Z : State} (hw : HW a0 Z) : (Jvm.Cond.code ({ cls := "com/example/kartoteka/kartoteka/model/Field", name := "isControlTag", desc := "(Ljava/lang/CharSequence;)Z" } : Jvm.MethodName) prog_67_method_9_code (1 : Nat) (Option.some Jvm.ClassFile.FieldType.boolean)).before a0 Z = true := hw _ (List.mem_of_getElem? (i := 65) rfl)
theorem w66 {a0 : Array Value} {Z : State} (hw : HW a0 Z) : (Jvm.Cond.methodLink "com/example/kartoteka/kartoteka/model/Field" (156 : Nat) ({ cls := "java/lang/CharSequence", name := "length", desc := "()I" } : Jvm.MethodName)).before a0 Z = true := hw _ (List.mem_of_getElem? (i := 66) rfl)
theorem w67 {a0 : Array Value} {Z : State} (hw : HW a0 Z) : (Jvm.Cond.declares ({ cls := "java/lang/CharSequence", name := "length", desc := "()I" } : Jvm.MethodName)).before a0 Z = true := hw _ (List.mem_of_getElem? (i := 67) rfl)
theorem w68 {a0 : Array Value} {Z : State} (hw : HW a0 Z) : (Jvm.Cond.interfaceMethod "java/lang/CharSequence" "java/lang/CharSequence" "length" "()I").before a0 Z = true := hw _ (List.mem_of_getElem? (i := 68) rfl)
theorem w69 {a0 : Array Value} {Z : State} (hw : HW a0 Z) : (Jvm.Cond.selects "java/lang/String" ({ cls := "java/lang/CharSequence", name := "length", desc := "()I" } : Jvm.MethodName) ({ cls := "java/lang/String", name := "length", desc := "()I" } : Jvm.MethodName)).before a0 Z = true := hw _ (List.mem_of_getElem? (i := 69) rfl)
theorem w70 {a0 : Array Value} {Z : State} (hw : HW a0 Z) : (Jvm.Cond.instanceMethod ({ cls := "java/lang/String", name := "length", desc := "()I" } : Jvm.MethodName)).before a0 Z = true := hw _ (List.mem_of_getElem? (i := 70) rfl)
theorem w71 {a0 : Array Value} {Z : State} (hw : HW a0 Z) : (Jvm.Cond.publicMethod ({ cls := "java/lang/String", name := "length", desc := "()I" } : Jvm.MethodName)).before a0 Z = true := hw _ (List.mem_of_getElem? (i := 71) rfl)
theorem w72 {a0 : Array Value} {Z : State} (hw : HW a0 Z) : (Jvm.Cond.unhidden "java/lang/String" "length" "()I").before a0 Z = true := hw _ (List.mem_of_getElem? (i := 72) rfl)
theorem w73 {a0 : Array Value} {Z : State} (hw : HW a0 Z) : (Jvm.Cond.castable "java/lang/String" "java/lang/CharSequence").before a0 Z = true := hw _ (List.mem_of_getElem? (i := 73) rfl)
theorem w74 {a0 : Array Value} {Z : State} (hw : HW a0 Z) : (Jvm.Cond.code ({ cls := "java/lang/String", name := "length", desc := "()I" } : Jvm.MethodName) jdk_42_method_54_code (1 : Nat) (Option.some Jvm.ClassFile.FieldType.int)).before a0 Z = true := hw _ (List.mem_of_getElem? (i := 74) rfl)
theorem w75 {a0 : Array Value} {Z : State} (hw : HW a0 Z) : (Jvm.Cond.methodLink "java/lang/String" (335 : Nat) ({ cls := "java/lang/String", name := "coder", desc := "()B" } : Jvm.MethodName)).before a0 Z = true := hw _ (List.mem_of_getElem? (i := 75) rfl)
theorem w76 {a0 : Array Value} {Z : State} (hw : HW a0 Z) : (Jvm.Cond.declares ({ cls := "java/lang/String", name := "coder", desc := "()B" } : Jvm.MethodName)).before a0 Z = true := hw _ (List.mem_of_getElem? (i := 76) rfl)
theorem w77 {a0 : Array Value} {Z : State} (hw : HW a0 Z) : (Jvm.Cond.instanceMethod ({ cls := "java/lang/String", name := "coder", desc := "()B" } : Jvm.MethodName)).before a0 Z = true := hw _ (List.mem_of_getElem? (i := 77) rfl)
theorem w78 {a0 : Array Value} {Z : State} (hw : HW a0 Z) : (Jvm.Cond.selects "java/lang/String" ({ cls := "java/lang/String", name := "coder", desc := "()B" } : Jvm.MethodName) ({ cls := "java/lang/String", name := "coder", desc := "()B" } : Jvm.MethodName)).before a0 Z = true := hw _ (List.mem_of_getElem? (i := 78) rfl)
theorem w79 {a0 : Array Value} {Z : State} (hw : HW a0 Z) : (Jvm.Cond.code ({ cls := "java/lang/String", name := "coder", desc := "()B" } : Jvm.MethodName) jdk_42_method_152_code (1 : Nat) (Option.some Jvm.ClassFile.FieldType.byte)).before a0 Z = true := hw _ (List.mem_of_getElem? (i := 79) rfl)
theorem w80 {a0 : Array Value} {Z : State} (hw : HW a0 Z) : (Jvm.Cond.methodLink "com/example/kartoteka/kartoteka/model/Field" (159 : Nat) ({ cls := "java/lang/CharSequence", name := "charAt", desc := "(I)C" } : Jvm.MethodName)).before a0 Z = true := hw _ (List.mem_of_getElem? (i := 80) rfl)
theorem w81 {a0 : Array Value} {Z : State} (hw : HW a0 Z) : (Jvm.Cond.declares ({ cls := "java/lang/CharSequence", name := "charAt", desc := "(I)C" } : Jvm.MethodName)).before a0 Z = true := hw _ (List.mem_of_getElem? (i := 81) rfl)
theorem w82 {a0 : Array Value} {Z : State} (hw : HW a0 Z) : (Jvm.Cond.interfaceMethod "java/lang/CharSequence" "java/lang/CharSequence" "charAt" "(I)C").before a0 Z = true := hw _ (List.mem_of_getElem? (i := 82) rfl)
theorem w83 {a0 : Array Value} {Z : State} (hw : HW a0 Z) : (Jvm.Cond.selects "java/lang/String" ({ cls := "java/lang/CharSequence", name := "charAt", desc := "(I)C" } : Jvm.MethodName) ({ cls := "java/lang/String", name := "charAt", desc := "(I)C" } : Jvm.MethodName)).before a0 Z = true := hw _ (List.mem_of_getElem? (i := 83) rfl)
theorem w84 {a0 : Array Value} {Z : State} (hw : HW a0 Z) : (Jvm.Cond.instanceMethod ({ cls := "java/lang/String", name := "charAt", desc := "(I)C" } : Jvm.MethodName)).before a0 Z = true := hw _ (List.mem_of_getElem? (i := 84) rfl)
theorem w85 {a0 : Array Value} {Z : State} (hw : HW a0 Z) : (Jvm.Cond.publicMethod ({ cls := "java/lang/String", name := "charAt", desc := "(I)C" } : Jvm.MethodName)).before a0 Z = true := hw _ (List.mem_of_getElem? (i := 85) rfl)
theorem w86 {a0 : Array Value} {Z : State} (hw : HW a0 Z) : (Jvm.Cond.unhidden "java/lang/String" "charAt" "(I)C").before a0 Z = true := hw _ (List.mem_of_getElem? (i := 86) rfl)
theorem w87 {a0 : Array Value} {Z : State} (hw : HW a0 Z) : (Jvm.Cond.code ({ cls := "java/lang/String", name := "charAt", desc := "(I)C" } : Jvm.MethodName) jdk_42_method_56_code (2 : Nat) (Option.some Jvm.ClassFile.FieldType.char)).before a0 Z = true := hw _ (List.mem_of_getElem? (i := 87) rfl)
theorem w88 {a0 : Array Value} {Z : State} (hw : HW a0 Z) : (Jvm.Cond.methodLink "java/lang/String" (492 : Nat) ({ cls := "java/lang/String", name := "isLatin1", desc := "()Z" } : Jvm.MethodName)).before a0 Z = true := hw _ (List.mem_of_getElem? (i := 88) rfl)
theorem w89 {a0 : Array Value} {Z : State} (hw : HW a0 Z) : (Jvm.Cond.declares ({ cls := "java/lang/String", name := "isLatin1", desc := "()Z" } : Jvm.MethodName)).before a0 Z = true := hw _ (List.mem_of_getElem? (i := 89) rfl)
theorem w90 {a0 : Array Value} {Z : State} (hw : HW a0 Z) : (Jvm.Cond.instanceMethod ({ cls := "java/lang/String", name := "isLatin1", desc := "()Z" } : Jvm.MethodName)).before a0 Z = true := hw _ (List.mem_of_getElem? (i := 90) rfl)
theorem w91 {a0 : Array Value} {Z : State} (hw : HW a0 Z) : (Jvm.Cond.selects "java/lang/String" ({ cls := "java/lang/String", name := "isLatin1", desc := "()Z" } : Jvm.MethodName) ({ cls := "java/lang/String", name := "isLatin1", desc := "()Z" } : Jvm.MethodName)).before a0 Z = true := hw _ (List.mem_of_getElem? (i := 91) rfl)
theorem w92 {a0 : Array Value} {Z : State} (hw : HW a0 Z) : (Jvm.Cond.code ({ cls := "java/lang/String", name := "isLatin1", desc := "()Z" } : Jvm.MethodName) jdk_42_method_154_code (1 : Nat) (Option.some Jvm.ClassFile.FieldType.boolean)).before a0 Z = true := hw _ (List.mem_of_getElem? (i := 92) rfl)
theorem w93 {a0 : Array Value} {Z : State} (hw : HW a0 Z) : (Jvm.Cond.methodLink "java/lang/String" (495 : Nat) ({ cls := "java/lang/StringLatin1", name := "charAt", desc := "([BI)C" } : Jvm.MethodName)).before a0 Z = true := hw _ (List.mem_of_getElem? (i := 93) rfl)
theorem w94 {a0 : Array Value} {Z : State} (hw : HW a0 Z) : (Jvm.Cond.static ({ cls := "java/lang/StringLatin1", name := "charAt", desc := "([BI)C" } : Jvm.MethodName)).before a0 Z = true := hw _ (List.mem_of_getElem? (i := 94) rfl)
theorem w95 {a0 : Array Value} {Z : State} (hw : HW a0 Z) : (Jvm.Cond.initialized "java/lang/StringLatin1").before a0 Z = true := hw _ (List.mem_of_getElem? (i := 95) rfl)
theorem w96 {a0 : Array Value} {Z : State} (hw : HW a0 Z) : (Jvm.Cond.code ({ cls := "java/lang/StringLatin1", name := "charAt", desc := "([BI)C" } : Jvm.MethodName) jdk_43_method_2_code (2 : Nat) (Option.some Jvm.ClassFile.FieldType.char)).before a0 Z = true := hw _ (List.mem_of_getElem? (i := 96) rfl)
theorem w97 {a0 : Array Value} {Z : State} (hw : HW a0 Z) : (Jvm.Cond.methodLink "java/lang/StringLatin1" (9 : Nat) ({ cls := "java/lang/String", name := "checkIndex", desc := "(II)V" } : Jvm.MethodName)).before a0 Z = true := hw _ (List.mem_of_getElem? (i := 97) rfl)
theorem w98 {a0 : Array Value} {Z : State} (hw : HW a0 Z) : (Jvm.Cond.static ({ cls := "java/lang/String", name := "checkIndex", desc := "(II)V" } : Jvm.MethodName)).before a0 Z = true := hw _ (List.mem_of_getElem? (i := 98) rfl)
theorem w99 {a0 : Array Value} {Z : State} (hw : HW a0 Z) : (Jvm.Cond.code ({ cls := "java/lang/String", name := "checkIndex", desc := "(II)V" } : Jvm.MethodName) jdk_42_method_155_code (2 : Nat) (Option.none : Option Jvm.ClassFile.FieldType)).before a0 Z = true := hw _ (List.mem_of_getElem? (i := 99) rfl)
theorem w100 {a0 : Array Value} {Z : State} (hw : HW a0 Z) : (Jvm.Cond.fieldLink "java/lang/String" (1053 : Nat) "jdk/internal/util/Preconditions" "SIOOBE_FORMATTER" "Ljava/util/function/BiFunction;").before a0 Z = true := hw _ (List.mem_of_getElem? (i := 100) rfl)
theorem w101 {a0 : Array Value} {Z : State} (hw : HW a0 Z) : (Jvm.Cond.initialized "jdk/internal/util/Preconditions").before a0 Z = true := hw _ (List.mem_of_getElem? (i := 101) rfl)
theorem w102 {a0 : Array Value} {Z : State} (hw : HW a0 Z) : (Jvm.Cond.methodLink "java/lang/String" (1059 : Nat) ({ cls := "jdk/internal/util/Preconditions", name := "checkIndex", desc := "(IILjava/util/function/BiFunction;)I" } : Jvm.MethodName)).before a0 Z = true := hw _ (List.mem_of_getElem? (i := 102) rfl)
theorem w103 {a0 : Array Value} {Z : State} (hw : HW a0 Z) : (Jvm.Cond.static ({ cls := "jdk/internal/util/Preconditions", name := "checkIndex", desc := "(IILjava/util/function/BiFunction;)I" } : Jvm.MethodName)).before a0 Z = true := hw _ (List.mem_of_getElem? (i := 103) rfl)
theorem w104 {a0 : Array Value} {Z : State} (hw : HW a0 Z) : (Jvm.Cond.code ({ cls := "jdk/internal/util/Preconditions", name := "checkIndex", desc := "(IILjava/util/function/BiFunction;)I" } : Jvm.MethodName) jdk_41_method_11_code (3 : Nat) (Option.some Jvm.ClassFile.FieldType.int)).before a0 Z = true := hw _ (List.mem_of_getElem? (i := 104) rfl)
theorem w105 {a0 : Array Value} {Z : State} (hw : HW a0 Z) : (Jvm.Cond.methodLink "com/example/kartoteka/kartoteka/model/StoredRecordIsControlPinLaw" (37 : Nat) ({ cls := "com/example/kartoteka/kartoteka/model/StoredRecord", name := "isControl", desc := "(I)Z" } : Jvm.MethodName)).before a0 Z = true := hw _ (List.mem_of_getElem? (i := 105) rfl)
theorem w106 {a0 : Array Value} {Z : State} (hw : HW a0 Z) : (Jvm.Cond.declares ({ cls := "com/example/kartoteka/kartoteka/model/StoredRecord", name := "isControl", desc := "(I)Z" } : Jvm.MethodName)).before a0 Z = true := hw _ (List.mem_of_getElem? (i := 106) rfl)
theorem w107 {a0 : Array Value} {Z : State} (hw : HW a0 Z) : (Jvm.Cond.instanceMethod ({ cls := "com/example/kartoteka/kartoteka/model/StoredRecord", name := "isControl", desc := "(I)Z" } : Jvm.MethodName)).before a0 Z = true := hw _ (List.mem_of_getElem? (i := 107) rfl)
theorem w108 {a0 : Array Value} {Z : State} (hw : HW a0 Z) : (Jvm.Cond.selects "com/example/kartoteka/kartoteka/model/StoredRecord" ({ cls := "com/example/kartoteka/kartoteka/model/StoredRecord", name := "isControl", desc := "(I)Z" } : Jvm.MethodName) ({ cls := "com/example/kartoteka/kartoteka/model/StoredRecord", name := "isControl", desc := "(I)Z" } : Jvm.MethodName)).before a0 Z = true := hw _ (List.mem_of_getElem? (i := 108) rfl)
theorem w109 {a0 : Array Value} {Z : State} (hw : HW a0 Z) : (Jvm.Cond.code ({ cls := "com/example/kartoteka/kartoteka/model/StoredRecord", name := "isControl", desc := "(I)Z" } : Jvm.MethodName) prog_73_method_11_code (3 : Nat) (Option.some Jvm.ClassFile.FieldType.boolean)).before a0 Z = true := hw _ (List.mem_of_getElem? (i := 109) rfl)
theorem pd_0 : parseMethodDescriptor "([CI[BII)I" = some ⟨[(.array .char), .int, (.array .byte), .int, .int], some .int⟩ := by decide +kernel
theorem pd_1 : parseMethodDescriptor "([CII)[B" = some ⟨[(.array .char), .int, .int], some (.array .byte)⟩ := by decide +kernel
theorem pd_2 : parseMethodDescriptor "([BI)B" = some ⟨[(.array .byte), .int], some .byte⟩ := by decide +kernel
theorem pd_3 : parseMethodDescriptor "([CIILjava/lang/Void;)V" = some ⟨[(.array .char), .int, .int, (.object "java/lang/Void")], none⟩ := by decide +kernel
theorem pd_4 : parseMethodDescriptor "()B" = some ⟨[], some .byte⟩ := by decide +kernel
theorem pd_5 : parseMethodDescriptor "(IILjava/util/function/BiFunction;)I" = some ⟨[.int, .int, (.object "java/util/function/BiFunction")], some .int⟩ := by decide +kernel
theorem pd_6 : parseMethodDescriptor "(II)V" = some ⟨[.int, .int], none⟩ := by decide +kernel
theorem pd_7 : parseMethodDescriptor "()Z" = some ⟨[], some .boolean⟩ := by decide +kernel
theorem pd_8 : parseMethodDescriptor "([BI)C" = some ⟨[(.array .byte), .int], some .char⟩ := by decide +kernel
theorem pd_9 : parseMethodDescriptor "()I" = some ⟨[], some .int⟩ := by decide +kernel
theorem pd_10 : parseMethodDescriptor "(I)C" = some ⟨[.int], some .char⟩ := by decide +kernel
theorem pd_11 : parseMethodDescriptor "(I)V" = some ⟨[.int], none⟩ := by decide +kernel
theorem pd_12 : parseMethodDescriptor "(I)[B" = some ⟨[.int], some (.array .byte)⟩ := by decide +kernel
theorem pd_13 : parseMethodDescriptor "(III)V" = some ⟨[.int, .int, .int], none⟩ := by decide +kernel
theorem pd_14 : parseMethodDescriptor "([C)V" = some ⟨[(.array .char)], none⟩ := by decide +kernel
theorem pd_15 : parseMethodDescriptor "(Ljava/lang/CharSequence;)Z" = some ⟨[(.object "java/lang/CharSequence")], some .boolean⟩ := by decide +kernel
theorem pd_16 : parseMethodDescriptor "(I)Z" = some ⟨[.int], some .boolean⟩ := by decide +kernel
theorem pn_0 : plainName "java/lang/StringUTF16" = true := by first | (simp [plainName, overriddenIn]; done) | decide +kernel
theorem pn_1 : plainName "java/lang/String" = true := by first | (simp [plainName, overriddenIn]; done) | decide +kernel
theorem pn_2 : plainName "jdk/internal/util/Preconditions" = true := by first | (simp [plainName, overriddenIn]; done) | decide +kernel
theorem pn_3 : plainName "java/lang/StringLatin1" = true := by first | (simp [plainName, overriddenIn]; done) | decide +kernel
theorem pn_4 : plainName "com/example/kartoteka/kartoteka/model/StoredRecordIsControlPinLaw" = true := by first | (simp [plainName, overriddenIn]; done) | decide +kernel
theorem pn_5 : plainName "com/example/kartoteka/kartoteka/model/StoredRecord" = true := by first | (simp [plainName, overriddenIn]; done) | decide +kernel
theorem pn_6 : plainName "com/example/kartoteka/kartoteka/model/Field" = true := by first | (simp [plainName, overriddenIn]; done) | decide +kernel
theorem own_na {a0 : Array Value} {Z : State} {h : Heap} {a b : Addr} {ty : FieldType} {vs : List Value} (E : Exa Z h a "java/lang/String") (hw : HW a0 Z) (A : OA Z h b ty vs) : a ≠ b := by
  obtain ⟨c, A, -⟩ := A
  exact ne_arr E (w37 hw) A
theorem d9_0 : decode jdk_52_method_21_code 0 = .ok (.iconst 0, 1) := by decide +kernel
theorem d9_1 : decode jdk_52_method_21_code 1 = .ok (.istore 5, 2) := by decide +kernel
theorem d9_3 : decode jdk_52_method_21_code 3 = .ok (.iload 5, 2) := by decide +kernel
theorem d9_5 : decode jdk_52_method_21_code 5 = .ok (.iload 4, 2) := by decide +kernel
theorem d9_7 : decode jdk_52_method_21_code 7 = .ok (.if_icmp .ge 37, 3) := by decide +kernel
theorem d9_10 : decode jdk_52_method_21_code 10 = .ok (.aload_n 0, 1) := by decide +kernel
theorem d9_11 : decode jdk_52_method_21_code 11 = .ok (.iload_n 1, 1) := by decide +kernel
theorem d9_12 : decode jdk_52_method_21_code 12 = .ok (.caload, 1) := by decide +kernel
theorem d9_13 : decode jdk_52_method_21_code 13 = .ok (.istore 6, 2) := by decide +kernel
theorem d9_15 : decode jdk_52_method_21_code 15 = .ok (.iload 6, 2) := by decide +kernel
theorem d9_17 : decode jdk_52_method_21_code 17 = .ok (.sipush 255, 3) := by decide +kernel
theorem d9_20 : decode jdk_52_method_21_code 20 = .ok (.if_icmp .le 6, 3) := by decide +kernel
theorem d9_23 : decode jdk_52_method_21_code 23 = .ok (.iload 5, 2) := by decide +kernel
theorem d9_25 : decode jdk_52_method_21_code 25 = .ok (.ireturn, 1) := by decide +kernel
theorem d9_26 : decode jdk_52_method_21_code 26 = .ok (.aload_n 2, 1) := by decide +kernel
theorem d9_27 : decode jdk_52_method_21_code 27 = .ok (.iload_n 3, 1) := by decide +kernel
theorem d9_28 : decode jdk_52_method_21_code 28 = .ok (.iload 6, 2) := by decide +kernel
theorem d9_30 : decode jdk_52_method_21_code 30 = .ok (.i2b, 1) := by decide +kernel
theorem d9_31 : decode jdk_52_method_21_code 31 = .ok (.bastore, 1) := by decide +kernel
theorem d9_32 : decode jdk_52_method_21_code 32 = .ok (.iinc 1 1, 3) := by decide +kernel
theorem d9_35 : decode jdk_52_method_21_code 35 = .ok (.iinc 3 1, 3) := by decide +kernel
theorem d9_38 : decode jdk_52_method_21_code 38 = .ok (.iinc 5 1, 3) := by decide +kernel
theorem d9_41 : decode jdk_52_method_21_code 41 = .ok (.goto (-38), 3) := by decide +kernel
theorem d9_44 : decode jdk_52_method_21_code 44 = .ok (.iload 4, 2) := by decide +kernel
theorem d9_46 : decode jdk_52_method_21_code 46 = .ok (.ireturn, 1) := by decide +kernel
set_option maxRecDepth 65536 in
set_option maxHeartbeats 40000000 in
theorem bC5_3 {l : Launch} {Z : State} {a0 : Array Value} (hw : HW a0 Z) (x0 : Addr) (x2 : Addr) {c0 c1 c2 : Int32}  {n0 : Nat} {h : Heap} (Z0 : n0 ≤ h.size) (g2 : n0 ≤ x2) (A0 : OA Z h x0 .char [(.int c0), (.int c1), (.int c2)]) (A2 : OA Z h x2 .byte [(.int (0 : Int32)), (.int (0 : Int32)), (.int (0 : Int32))]) (k0 : ¬ (255 : Int32) < c0) (k1 : ¬ (255 : Int32) < c1) (k2 : ¬ (255 : Int32) < c2) (hne : x0 ≠ x2) : OM l Z (⟨"java/lang/StringUTF16", "compress", "([CI[BII)I"⟩ : MethodName) jdk_52_method_21_code 7 (some .int) ⟨0, 0, 0, 0⟩ n0 h #[(.ref x0), (.int (0 : Int32)), (.ref x2), (.int (0 : Int32)), (.int (3 : Int32))] (fun v h' => v = some (.int (3 : Int32)) ∧ Keep h h' [x2] ∧ OA Z h' x2 .byte [(.int c0.toInt8.toInt32), (.int c1.toInt8.toInt32), (.int c2.toInt8.toInt32)]) 0 0 := by
  refine OM.of_body (ls := #[.val (.ref x0), .val (.int (0 : Int32)), .val (.ref x2), .val (.int (0 : Int32)), .val (.int (3 : Int32)), .unset, .unset]) (plainFor_of_name pn_0) (fun m => by first | (simp [entryFrame, mkF, argsToLocals, Value.category]; done) | rfl) ?_
  intro p e s m below meth c C
  refine OG.ow (OG.iconst C d9_0 (z := (0 : Int32)) rfl (pc' := 1) rfl) ?_
  refine OG.ow (OG.istore C d9_1 (ls' := #[.val (.ref x0), .val (.int (0 : Int32)), .val (.ref x2), .val (.int (0 : Int32)), .val (.int (3 : Int32)), .val (.int (0 : Int32)), .unset]) rfl (pc' := 3) rfl) ?_
  refine OG.ow (OG.iload C d9_3 rfl (pc' := 5) rfl) ?_
  refine OG.ow (OG.iload C d9_5 rfl (pc' := 7) rfl) ?_
  refine OG.ow (OG.icmpNo C d9_7 (tlt (by decide : (0 : Int32) < (3 : Int32))).2.1 (pc' := 10) rfl) ?_
  refine OG.ow (OG.aloadN C d9_10 rfl rfl (pc' := 11) rfl) ?_
  refine OG.ow (OG.iloadN C d9_11 rfl (pc' := 12) rfl) ?_
  refine OG.ow (OG.caload C A0 (own_ib (n := 3) rfl (by decide)) rfl d9_12 (pc' := 13) rfl) ?_
  refine OG.ow (OG.istore C d9_13 (ls' := #[.val (.ref x0), .val (.int (0 : Int32)), .val (.ref x2), .val (.int (0 : Int32)), .val (.int (3 : Int32)), .val (.int (0 : Int32)), .val (.int c0)]) rfl (pc' := 15) rfl) ?_
  refine OG.ow (OG.iload C d9_15 rfl (pc' := 17) rfl) ?_
  refine OG.ow (OG.sipush C d9_17 (z := (255 : Int32)) (by decide) (pc' := 20) rfl) ?_
  refine OG.ow (OG.icmpYes C d9_20 (flt k0).2.2.2 (by decide) (pc' := 26) (by decide)) ?_
  refine OG.ow (OG.aloadN C d9_26 rfl rfl (pc' := 27) rfl) ?_
  refine OG.ow (OG.iloadN C d9_27 rfl (pc' := 28) rfl) ?_
  refine OG.ow (OG.iload C d9_28 rfl (pc' := 30) rfl) ?_
  refine OG.ow (OG.i2b C d9_30 (pc' := 31) rfl) ?_
  refine OW.bastore C A2 (own_ib (n := 3) rfl (by decide)) g2 d9_31 (pc' := 32) rfl ?_
  intro h1 Wh1
  rw [(own_nb _)] at Wh1
  have G2 : OA Z h1 x2 .byte [(.int c0.toInt8.toInt32), (.int (0 : Int32)), (.int (0 : Int32))] := OA.same A2 Wh1
  refine OG.ow (OG.iinc C d9_32 (z := (1 : Int32)) rfl rfl (ls' := #[.val (.ref x0), .val (.int (1 : Int32)), .val (.ref x2), .val (.int (0 : Int32)), .val (.int (3 : Int32)), .val (.int (0 : Int32)), .val (.int c0)]) (by rw [show (0 : Int32) + (1 : Int32) = (1 : Int32) by decide]; rfl) (pc' := 35) rfl) ?_
  refine OG.ow (OG.iinc C d9_35 (z := (1 : Int32)) rfl rfl (ls' := #[.val (.ref x0), .val (.int (1 : Int32)), .val (.ref x2), .val (.int (1 : Int32)), .val (.int (3 : Int32)), .val (.int (0 : Int32)), .val (.int c0)]) (by rw [show (0 : Int32) + (1 : Int32) = (1 : Int32) by decide]; rfl) (pc' := 38) rfl) ?_
  refine OG.ow (OG.iinc C d9_38 (z := (1 : Int32)) rfl rfl (ls' := #[.val (.ref x0), .val (.int (1 : Int32)), .val (.ref x2), .val (.int (1 : Int32)), .val (.int (3 : Int32)), .val (.int (1 : Int32)), .val (.int c0)]) (by rw [show (0 : Int32) + (1 : Int32) = (1 : Int32) by decide]; rfl) (pc' := 41) rfl) ?_
  refine OG.ow (OG.goto C d9_41 (by decide) (pc' := 3) (by decide)) ?_
  refine OG.ow (OG.iload C d9_3 rfl (pc' := 5) rfl) ?_
  refine OG.ow (OG.iload C d9_5 rfl (pc' := 7) rfl) ?_
  refine OG.ow (OG.icmpNo C d9_7 (tlt (by decide : (1 : Int32) < (3 : Int32))).2.1 (pc' := 10) rfl) ?_
  refine OG.ow (OG.aloadN C d9_10 rfl rfl (pc' := 11) rfl) ?_
  refine OG.ow (OG.iloadN C d9_11 rfl (pc' := 12) rfl) ?_
  have G3 := (OA.other A0 Wh1 hne)
  refine OG.ow (OG.caload C G3 (own_ib (n := 3) rfl (by decide)) rfl d9_12 (pc' := 13) rfl) ?_
  refine OG.ow (OG.istore C d9_13 (ls' := #[.val (.ref x0), .val (.int (1 : Int32)), .val (.ref x2), .val (.int (1 : Int32)), .val (.int (3 : Int32)), .val (.int (1 : Int32)), .val (.int c1)]) rfl (pc' := 15) rfl) ?_
  refine OG.ow (OG.iload C d9_15 rfl (pc' := 17) rfl) ?_
  refine OG.ow (OG.sipush C d9_17 (z := (255 : Int32)) (by decide) (pc' := 20) rfl) ?_
  refine OG.ow (OG.icmpYes C d9_20 (flt k1).2.2.2 (by decide) (pc' := 26) (by decide)) ?_
  refine OG.ow (OG.aloadN C d9_26 rfl rfl (pc' := 27) rfl) ?_
  refine OG.ow (OG.iloadN C d9_27 rfl (pc' := 28) rfl) ?_
  refine OG.ow (OG.iload C d9_28 rfl (pc' := 30) rfl) ?_
  refine OG.ow (OG.i2b C d9_30 (pc' := 31) rfl) ?_
  refine OW.bastore C G2 (own_ib (n := 3) rfl (by decide)) g2 d9_31 (pc' := 32) rfl ?_
  intro h4 Wh4
  rw [(own_nb _)] at Wh4
  have G5 : OA Z h4 x2 .byte [(.int c0.toInt8.toInt32), (.int c1.toInt8.toInt32), (.int (0 : Int32))] := OA.same G2 Wh4
  refine OG.ow (OG.iinc C d9_32 (z := (1 : Int32)) rfl rfl (ls' := #[.val (.ref x0), .val (.int (2 : Int32)), .val (.ref x2), .val (.int (1 : Int32)), .val (.int (3 : Int32)), .val (.int (1 : Int32)), .val (.int c1)]) (by rw [show (1 : Int32) + (1 : Int32) = (2 : Int32) by decide]; rfl) (pc' := 35) rfl) ?_
  refine OG.ow (OG.iinc C d9_35 (z := (1 : Int32)) rfl rfl (ls' := #[.val (.ref x0), .val (.int (2 : Int32)), .val (.ref x2), .val (.int (2 : Int32)), .val (.int (3 : Int32)), .val (.int (1 : Int32)), .val (.int c1)]) (by rw [show (1 : Int32) + (1 : Int32) = (2 : Int32) by decide]; rfl) (pc' := 38) rfl) ?_
  refine OG.ow (OG.iinc C d9_38 (z := (1 : Int32)) rfl rfl (ls' := #[.val (.ref x0), .val (.int (2 : Int32)), .val (.ref x2), .val (.int (2 : Int32)), .val (.int (3 : Int32)), .val (.int (2 : Int32)), .val (.int c1)]) (by rw [show (1 : Int32) + (1 : Int32) = (2 : Int32) by decide]; rfl) (pc' := 41) rfl) ?_
  refine OG.ow (OG.goto C d9_41 (by decide) (pc' := 3) (by decide)) ?_
  refine OG.ow (OG.iload C d9_3 rfl (pc' := 5) rfl) ?_
  refine OG.ow (OG.iload C d9_5 rfl (pc' := 7) rfl) ?_
  refine OG.ow (OG.icmpNo C d9_7 (tlt (by decide : (2 : Int32) < (3 : Int32))).2.1 (pc' := 10) rfl) ?_
  refine OG.ow (OG.aloadN C d9_10 rfl rfl (pc' := 11) rfl) ?_
  refine OG.ow (OG.iloadN C d9_11 rfl (pc' := 12) rfl) ?_
  have G6 := (OA.other G3 Wh4 hne)
  refine OG.ow (OG.caload C G6 (own_ib (n := 3) rfl (by decide)) rfl d9_12 (pc' := 13) rfl) ?_
  refine OG.ow (OG.istore C d9_13 (ls' := #[.val (.ref x0), .val (.int (2 : Int32)), .val (.ref x2), .val (.int (2 : Int32)), .val (.int (3 : Int32)), .val (.int (2 : Int32)), .val (.int c2)]) rfl (pc' := 15) rfl) ?_
  refine OG.ow (OG.iload C d9_15 rfl (pc' := 17) rfl) ?_
  refine OG.ow (OG.sipush C d9_17 (z := (255 : Int32)) (by decide) (pc' := 20) rfl) ?_
  refine OG.ow (OG.icmpYes C d9_20 (flt k2).2.2.2 (by decide) (pc' := 26) (by decide)) ?_
  refine OG.ow (OG.aloadN C d9_26 rfl rfl (pc' := 27) rfl) ?_
  refine OG.ow (OG.iloadN C d9_27 rfl (pc' := 28) rfl) ?_
  refine OG.ow (OG.iload C d9_28 rfl (pc' := 30) rfl) ?_
  refine OG.ow (OG.i2b C d9_30 (pc' := 31) rfl) ?_
  refine OW.bastore C G5 (own_ib (n := 3) rfl (by decide)) g2 d9_31 (pc' := 32) rfl ?_
  intro h7 Wh7
  rw [(own_nb _)] at Wh7
  have G8 : OA Z h7 x2 .byte [(.int c0.toInt8.toInt32), (.int c1.toInt8.toInt32), (.int c2.toInt8.toInt32)] := OA.same G5 Wh7
  refine OG.ow (OG.iinc C d9_32 (z := (1 : Int32)) rfl rfl (ls' := #[.val (.ref x0), .val (.int (3 : Int32)), .val (.ref x2), .val (.int (2 : Int32)), .val (.int (3 : Int32)), .val (.int (2 : Int32)), .val (.int c2)]) (by rw [show (2 : Int32) + (1 : Int32) = (3 : Int32) by decide]; rfl) (pc' := 35) rfl) ?_
  refine OG.ow (OG.iinc C d9_35 (z := (1 : Int32)) rfl rfl (ls' := #[.val (.ref x0), .val (.int (3 : Int32)), .val (.ref x2), .val (.int (3 : Int32)), .val (.int (3 : Int32)), .val (.int (2 : Int32)), .val (.int c2)]) (by rw [show (2 : Int32) + (1 : Int32) = (3 : Int32) by decide]; rfl) (pc' := 38) rfl) ?_
  refine OG.ow (OG.iinc C d9_38 (z := (1 : Int32)) rfl rfl (ls' := #[.val (.ref x0), .val (.int (3 : Int32)), .val (.ref x2), .val (.int (3 : Int32)), .val (.int (3 : Int32)), .val (.int (3 : Int32)), .val (.int c2)]) (by rw [show (2 : Int32) + (1 : Int32) = (3 : Int32) by decide]; rfl) (pc' := 41) rfl) ?_
  refine OG.ow (OG.goto C d9_41 (by decide) (pc' := 3) (by decide)) ?_
  refine OG.ow (OG.iload C d9_3 rfl (pc' := 5) rfl) ?_
  refine OG.ow (OG.iload C d9_5 rfl (pc' := 7) rfl) ?_
  refine OG.ow (OG.icmpYes C d9_7 (flt (by decide : ¬ ((3 : Int32) < (3 : Int32)))).2.1 (by decide) (pc' := 44) (by decide)) ?_
  refine OG.ow (OG.iload C d9_44 rfl (pc' := 46) rfl) ?_
  refine OW.retI C d9_46 (by decide) (by decide) ?_
  exact ⟨rfl, ((((Keep.refl h [x2]).wr Wh1 (Or.inl (List.mem_of_getElem? (i := 0) rfl))).wr Wh4 (Or.inl (List.mem_of_getElem? (i := 0) rfl))).wr Wh7 (Or.inl (List.mem_of_getElem? (i := 0) rfl))), G8⟩
theorem d8_0 : decode jdk_52_method_16_code 0 = .ok (.iload_n 2, 1) := by decide +kernel
theorem d8_1 : decode jdk_52_method_16_code 1 = .ok (.newarray .byte, 2) := by decide +kernel
theorem d8_3 : decode jdk_52_method_16_code 3 = .ok (.astore_n 3, 1) := by decide +kernel
theorem d8_4 : decode jdk_52_method_16_code 4 = .ok (.aload_n 0, 1) := by decide +kernel
theorem d8_5 : decode jdk_52_method_16_code 5 = .ok (.iload_n 1, 1) := by decide +kernel
theorem d8_6 : decode jdk_52_method_16_code 6 = .ok (.aload_n 3, 1) := by decide +kernel
theorem d8_7 : decode jdk_52_method_16_code 7 = .ok (.iconst 0, 1) := by decide +kernel
theorem d8_8 : decode jdk_52_method_16_code 8 = .ok (.iload_n 2, 1) := by decide +kernel
theorem d8_9 : decode jdk_52_method_16_code 9 = .ok (.invokestatic 115, 3) := by decide +kernel
theorem d8_12 : decode jdk_52_method_16_code 12 = .ok (.istore 4, 2) := by decide +kernel
theorem d8_14 : decode jdk_52_method_16_code 14 = .ok (.iload 4, 2) := by decide +kernel
theorem d8_16 : decode jdk_52_method_16_code 16 = .ok (.iload_n 2, 1) := by decide +kernel
theorem d8_17 : decode jdk_52_method_16_code 17 = .ok (.if_icmp .eq 40, 3) := by decide +kernel
theorem d8_20 : decode jdk_52_method_16_code 20 = .ok (.aload_n 0, 1) := by decide +kernel
theorem d8_21 : decode jdk_52_method_16_code 21 = .ok (.iload_n 1, 1) := by decide +kernel
theorem d8_22 : decode jdk_52_method_16_code 22 = .ok (.iload_n 2, 1) := by decide +kernel
theorem d8_23 : decode jdk_52_method_16_code 23 = .ok (.invokestatic 119, 3) := by decide +kernel
theorem d8_26 : decode jdk_52_method_16_code 26 = .ok (.astore 5, 2) := by decide +kernel
theorem d8_28 : decode jdk_52_method_16_code 28 = .ok (.aload 5, 2) := by decide +kernel
theorem d8_30 : decode jdk_52_method_16_code 30 = .ok (.iload 4, 2) := by decide +kernel
theorem d8_32 : decode jdk_52_method_16_code 32 = .ok (.invokestatic 71, 3) := by decide +kernel
theorem d8_35 : decode jdk_52_method_16_code 35 = .ok (.sipush 255, 3) := by decide +kernel
theorem d8_38 : decode jdk_52_method_16_code 38 = .ok (.if_icmp .gt 16, 3) := by decide +kernel
theorem d8_41 : decode jdk_52_method_16_code 41 = .ok (.aload 5, 2) := by decide +kernel
theorem d8_43 : decode jdk_52_method_16_code 43 = .ok (.iconst 0, 1) := by decide +kernel
theorem d8_44 : decode jdk_52_method_16_code 44 = .ok (.aload_n 3, 1) := by decide +kernel
theorem d8_45 : decode jdk_52_method_16_code 45 = .ok (.iconst 0, 1) := by decide +kernel
theorem d8_46 : decode jdk_52_method_16_code 46 = .ok (.iload_n 2, 1) := by decide +kernel
theorem d8_47 : decode jdk_52_method_16_code 47 = .ok (.invokestatic 123, 3) := by decide +kernel
theorem d8_50 : decode jdk_52_method_16_code 50 = .ok (.iload_n 2, 1) := by decide +kernel
theorem d8_51 : decode jdk_52_method_16_code 51 = .ok (.if_icmp .eq 6, 3) := by decide +kernel
theorem d8_54 : decode jdk_52_method_16_code 54 = .ok (.aload 5, 2) := by decide +kernel
theorem d8_56 : decode jdk_52_method_16_code 56 = .ok (.areturn, 1) := by decide +kernel
theorem d8_57 : decode jdk_52_method_16_code 57 = .ok (.aload_n 3, 1) := by decide +kernel
theorem d8_58 : decode jdk_52_method_16_code 58 = .ok (.areturn, 1) := by decide +kernel
set_option maxRecDepth 65536 in
set_option maxHeartbeats 40000000 in
theorem bC3_3 {l : Launch} {Z : State} {a0 : Array Value} (hw : HW a0 Z) (x0 : Addr) {c0 c1 c2 : Int32}  {n0 : Nat} {h : Heap} (Z0 : n0 ≤ h.size) (A0 : OA Z h x0 .char [(.int c0), (.int c1), (.int c2)]) (k0 : ¬ (255 : Int32) < c0) (k1 : ¬ (255 : Int32) < c1) (k2 : ¬ (255 : Int32) < c2) : OM l Z (⟨"java/lang/StringUTF16", "compress", "([CII)[B"⟩ : MethodName) jdk_52_method_16_code 6 (some (.array .byte)) ⟨1, 1, 3, 18⟩ n0 h #[(.ref x0), (.int (0 : Int32)), (.int (3 : Int32))] (fun v h' => ∃ b : Addr, v = some (.ref b) ∧ h.size ≤ b ∧ Keep h h' [] ∧ OA Z h' b .byte [(.int c0.toInt8.toInt32), (.int c1.toInt8.toInt32), (.int c2.toInt8.toInt32)]) 1 3 := by
  refine OM.of_body (ls := #[.val (.ref x0), .val (.int (0 : Int32)), .val (.int (3 : Int32)), .unset, .unset, .unset]) (plainFor_of_name pn_0) (fun m => by first | (simp [entryFrame, mkF, argsToLocals, Value.category]; done) | rfl) ?_
  intro p e s m below meth c C
  refine OG.ow (OG.iloadN C d8_0 rfl (pc' := 1) rfl) ?_
  refine OW.newP C (ty := .byte) rfl (w21 hw) (by decide) (cap := 3) (by decide) (by decide) d8_1 (by decide) (by decide) (pc' := 3) rfl ?_
  intro a1 h2 ga1 Eh2 Aa1
  refine OG.ow (OG.astoreN C d8_3 rfl (ls' := #[.val (.ref x0), .val (.int (0 : Int32)), .val (.int (3 : Int32)), .val (.ref a1), .unset, .unset]) rfl (pc' := 4) rfl) ?_
  refine OG.ow (OG.aloadN C d8_4 rfl rfl (pc' := 5) rfl) ?_
  refine OG.ow (OG.iloadN C d8_5 rfl (pc' := 6) rfl) ?_
  refine OG.ow (OG.aloadN C d8_6 rfl rfl (pc' := 7) rfl) ?_
  refine OG.ow (OG.iconst C d8_7 (z := (0 : Int32)) rfl (pc' := 8) rfl) ?_
  refine OG.ow (OG.iloadN C d8_8 rfl (pc' := 9) rfl) ?_
  have G3 := (A0.ext Eh2)
  refine OW.callS C (w52 hw) (w53 hw) (w50 hw) (w54 hw) (by decide) (bC5_3 hw x0 a1 (Nat.le_trans Z0 Eh2.1) (Nat.le_trans Z0 (Nat.le_of_eq ga1)) G3 (show OA Z h2 a1 .byte [(.int (0 : Int32)), (.int (0 : Int32)), (.int (0 : Int32))] from Aa1) k0 k1 k2 (Nat.ne_of_lt (Nat.lt_of_lt_of_le (Nat.lt_of_lt_of_le (A0).lt (Nat.le_refl _)) (Nat.le_of_eq ga1)))) d8_9 pd_0 rfl (argsL := [(.ref x0), (.int (0 : Int32)), (.ref a1), (.int (0 : Int32)), (.int (3 : Int32))]) (rest := []) rfl rfl (W := 0) rfl (by decide) (by decide) (by decide) (by decide) (pc' := 12) rfl ?_
  intro vh4 h4 qh4
  obtain ⟨rfl, Kh4, Ah4⟩ := qh4
  refine OG.ow (OG.istore C d8_12 (ls' := #[.val (.ref x0), .val (.int (0 : Int32)), .val (.int (3 : Int32)), .val (.ref a1), .val (.int (3 : Int32)), .unset]) rfl (pc' := 14) rfl) ?_
  refine OG.ow (OG.iload C d8_14 rfl (pc' := 16) rfl) ?_
  refine OG.ow (OG.iloadN C d8_16 rfl (pc' := 17) rfl) ?_
  refine OG.ow (OG.icmpYes C d8_17 (teq (by decide : (3 : Int32) = (3 : Int32))).1 (by decide) (pc' := 57) (by decide)) ?_
  refine OG.ow (OG.aloadN C d8_57 rfl rfl (pc' := 58) rfl) ?_
  refine OW.retA C rfl rfl d8_58 (by decide) (by decide) ?_
  exact ⟨_, rfl, (Nat.le_of_eq ga1), (((Keep.refl h []).ext Eh2).trans Kh4 (allS (Or.inr (Nat.le_trans (Nat.le_refl _) (Nat.le_of_eq ga1))) all0)), Ah4⟩
theorem d10_0 : decode jdk_52_method_15_code 0 = .ok (.iload_n 1, 1) := by decide +kernel
theorem d10_1 : decode jdk_52_method_15_code 1 = .ok (.aload_n 0, 1) := by decide +kernel
theorem d10_2 : decode jdk_52_method_15_code 2 = .ok (.arraylength, 1) := by decide +kernel
theorem d10_3 : decode jdk_52_method_15_code 3 = .ok (.isub, 1) := by decide +kernel
theorem d10_4 : decode jdk_52_method_15_code 4 = .ok (.bipush 31, 2) := by decide +kernel
theorem d10_6 : decode jdk_52_method_15_code 6 = .ok (.iushr, 1) := by decide +kernel
theorem d10_7 : decode jdk_52_method_15_code 7 = .ok (.i2b, 1) := by decide +kernel
theorem d10_8 : decode jdk_52_method_15_code 8 = .ok (.ireturn, 1) := by decide +kernel
set_option maxRecDepth 65536 in
set_option maxHeartbeats 40000000 in
theorem bCo_3 {l : Launch} {Z : State} {a0 : Array Value} (hw : HW a0 Z) (x0 : Addr) {c0 c1 c2 : Int32}  {n0 : Nat} {h : Heap} (Z0 : n0 ≤ h.size) (A0 : OA Z h x0 .byte [(.int c0.toInt8.toInt32), (.int c1.toInt8.toInt32), (.int c2.toInt8.toInt32)]) : OM l Z (⟨"java/lang/StringUTF16", "coderFromArrayLen", "([BI)B"⟩ : MethodName) jdk_52_method_15_code 2 (some .byte) ⟨0, 0, 0, 0⟩ n0 h #[(.ref x0), (.int (3 : Int32))] (fun v h' => v = some (.int (0 : Int32)) ∧ h' = h) 0 0 := by
  refine OM.of_body (ls := #[.val (.ref x0), .val (.int (3 : Int32))]) (plainFor_of_name pn_0) (fun m => by first | (simp [entryFrame, mkF, argsToLocals, Value.category]; done) | rfl) ?_
  intro p e s m below meth c C
  refine OG.ow (OG.iloadN C d10_0 rfl (pc' := 1) rfl) ?_
  refine OG.ow (OG.aloadN C d10_1 rfl rfl (pc' := 2) rfl) ?_
  refine OG.ow (OG.arraylength C A0 (z := (3 : Int32)) (by first | rfl | decide) d10_2 (pc' := 3) rfl) ?_
  refine OG.ow (OG.cast (OG.isub C d10_3 (pc' := 4) rfl) (own_fr (z := (0 : Int32)) (by decide))) ?_
  refine OG.ow (OG.bipush C d10_4 (z := (31 : Int32)) (by decide) (pc' := 6) rfl) ?_
  refine OG.ow (OG.cast (OG.iushr C d10_6 (pc' := 7) rfl) (own_fr (z := (0 : Int32)) (by decide))) ?_
  refine OG.ow (OG.cast (OG.i2b C d10_7 (pc' := 8) rfl) (own_fr (z := (0 : Int32)) (by decide))) ?_
  refine OW.retN (t := .byte) C (by simp) d10_8 (by decide) (by decide) ?_
  exact ⟨rfl, rfl⟩
theorem d7_0 : decode jdk_42_method_149_code 0 = .ok (.aload_n 0, 1) := by decide +kernel
theorem d7_1 : decode jdk_42_method_149_code 1 = .ok (.invokespecial 1, 3) := by decide +kernel
theorem d7_4 : decode jdk_42_method_149_code 4 = .ok (.iload_n 3, 1) := by decide +kernel
theorem d7_5 : decode jdk_42_method_149_code 5 = .ok (.ifCond .ne 22, 3) := by decide +kernel
theorem d7_8 : decode jdk_42_method_149_code 8 = .ok (.aload_n 0, 1) := by decide +kernel
theorem d7_9 : decode jdk_42_method_149_code 9 = .ok (.ldc 7, 2) := by decide +kernel
theorem d7_11 : decode jdk_42_method_149_code 11 = .ok (.getfield 9, 3) := by decide +kernel
theorem d7_14 : decode jdk_42_method_149_code 14 = .ok (.putfield 9, 3) := by decide +kernel
theorem d7_17 : decode jdk_42_method_149_code 17 = .ok (.aload_n 0, 1) := by decide +kernel
theorem d7_18 : decode jdk_42_method_149_code 18 = .ok (.ldc 7, 2) := by decide +kernel
theorem d7_20 : decode jdk_42_method_149_code 20 = .ok (.getfield 15, 3) := by decide +kernel
theorem d7_23 : decode jdk_42_method_149_code 23 = .ok (.putfield 15, 3) := by decide +kernel
theorem d7_26 : decode jdk_42_method_149_code 26 = .ok (.return_, 1) := by decide +kernel
theorem d7_27 : decode jdk_42_method_149_code 27 = .ok (.getstatic 38, 3) := by decide +kernel
theorem d7_30 : decode jdk_42_method_149_code 30 = .ok (.ifCond .eq 28, 3) := by decide +kernel
theorem d7_33 : decode jdk_42_method_149_code 33 = .ok (.aload_n 1, 1) := by decide +kernel
theorem d7_34 : decode jdk_42_method_149_code 34 = .ok (.iload_n 2, 1) := by decide +kernel
theorem d7_35 : decode jdk_42_method_149_code 35 = .ok (.iload_n 3, 1) := by decide +kernel
theorem d7_36 : decode jdk_42_method_149_code 36 = .ok (.invokestatic 177, 3) := by decide +kernel
theorem d7_39 : decode jdk_42_method_149_code 39 = .ok (.astore 5, 2) := by decide +kernel
theorem d7_41 : decode jdk_42_method_149_code 41 = .ok (.aload_n 0, 1) := by decide +kernel
theorem d7_42 : decode jdk_42_method_149_code 42 = .ok (.aload 5, 2) := by decide +kernel
theorem d7_44 : decode jdk_42_method_149_code 44 = .ok (.iload_n 3, 1) := by decide +kernel
theorem d7_45 : decode jdk_42_method_149_code 45 = .ok (.invokestatic 47, 3) := by decide +kernel
theorem d7_48 : decode jdk_42_method_149_code 48 = .ok (.putfield 15, 3) := by decide +kernel
theorem d7_51 : decode jdk_42_method_149_code 51 = .ok (.aload_n 0, 1) := by decide +kernel
theorem d7_52 : decode jdk_42_method_149_code 52 = .ok (.aload 5, 2) := by decide +kernel
theorem d7_54 : decode jdk_42_method_149_code 54 = .ok (.putfield 9, 3) := by decide +kernel
theorem d7_57 : decode jdk_42_method_149_code 57 = .ok (.return_, 1) := by decide +kernel
theorem d7_58 : decode jdk_42_method_149_code 58 = .ok (.aload_n 0, 1) := by decide +kernel
theorem d7_59 : decode jdk_42_method_149_code 59 = .ok (.iconst 1, 1) := by decide +kernel
theorem d7_60 : decode jdk_42_method_149_code 60 = .ok (.putfield 15, 3) := by decide +kernel
theorem d7_63 : decode jdk_42_method_149_code 63 = .ok (.aload_n 0, 1) := by decide +kernel
theorem d7_64 : decode jdk_42_method_149_code 64 = .ok (.aload_n 1, 1) := by decide +kernel
theorem d7_65 : decode jdk_42_method_149_code 65 = .ok (.iload_n 2, 1) := by decide +kernel
theorem d7_66 : decode jdk_42_method_149_code 66 = .ok (.iload_n 3, 1) := by decide +kernel
theorem d7_67 : decode jdk_42_method_149_code 67 = .ok (.invokestatic 180, 3) := by decide +kernel
theorem d7_70 : decode jdk_42_method_149_code 70 = .ok (.putfield 9, 3) := by decide +kernel
theorem d7_73 : decode jdk_42_method_149_code 73 = .ok (.return_, 1) := by decide +kernel
set_option maxRecDepth 65536 in
set_option maxHeartbeats 40000000 in
theorem bI5_3 {l : Launch} {Z : State} {a0 : Array Value} (hw : HW a0 Z) (x0 : Addr) (x1 : Addr) {c0 c1 c2 : Int32} {cs : Int32} {n0 : Nat} {h : Heap} (Z0 : n0 ≤ h.size) (g0 : n0 ≤ x0) (E0 : Exa Z h x0 "java/lang/String") (F0 : Fld Z h x0 "java/lang/String" "value" "[B" .null) (F1 : Fld Z h x0 "java/lang/String" "coder" "B" (.int (0 : Int32))) (A1 : OA Z h x1 .char [(.int c0), (.int c1), (.int c2)]) (S0 : Sta Z h "java/lang/String" "COMPACT_STRINGS" "Z" (.int cs)) (hcs : ¬ cs = (0 : Int32)) (k0 : ¬ (255 : Int32) < c0) (k1 : ¬ (255 : Int32) < c1) (k2 : ¬ (255 : Int32) < c2) : OM l Z (⟨"java/lang/String", "<init>", "([CIILjava/lang/Void;)V"⟩ : MethodName) jdk_42_method_149_code 6 none ⟨2, 1, 3, 35⟩ n0 h #[(.ref x0), (.ref x1), (.int (0 : Int32)), (.int (3 : Int32)), .null] (fun v h' => v = none ∧ Keep h h' [x0] ∧ ∃ b : Addr, h.size ≤ b ∧ Fld Z h' x0 "java/lang/String" "value" "[B" (.ref b) ∧ Fld Z h' x0 "java/lang/String" "coder" "B" (.int (0 : Int32)) ∧ OA Z h' b .byte [(.int c0.toInt8.toInt32), (.int c1.toInt8.toInt32), (.int c2.toInt8.toInt32)]) 1 3 := by
  refine OM.of_body (ls := #[.val (.ref x0), .val (.ref x1), .val (.int (0 : Int32)), .val (.int (3 : Int32)), .val .null, .unset]) (plainFor_of_name pn_1) (fun m => by first | (simp [entryFrame, mkF, argsToLocals, Value.category]; done) | rfl) ?_
  intro p e s m below meth c C
  refine OG.ow (OG.aloadN C d7_0 rfl rfl (pc' := 1) rfl) ?_
  refine OG.ow (OG.initO C (w46 hw) (w12 hw) (w13 hw) d7_1 rfl (by decide) (W := 0) rfl (by decide) (pc' := 4) rfl) ?_
  refine OG.ow (OG.iloadN C d7_4 rfl (pc' := 5) rfl) ?_
  refine OG.ow (OG.ifYes C d7_5 ((if0 _ _).trans (feq (by decide : ¬ ((3 : Int32) = (0 : Int32)))).2) (by decide) (pc' := 27) (by decide)) ?_
  refine OG.ow (OG.getS C (host := "") (Or.inl (w47 hw)) Via.refl S0 d7_27 (pc' := 30) rfl) ?_
  refine OG.ow (OG.ifNo C d7_30 ((if0 _ _).trans (feq hcs).1) (pc' := 33) rfl) ?_
  refine OG.ow (OG.aloadN C d7_33 rfl rfl (pc' := 34) rfl) ?_
  refine OG.ow (OG.iloadN C d7_34 rfl (pc' := 35) rfl) ?_
  refine OG.ow (OG.iloadN C d7_35 rfl (pc' := 36) rfl) ?_
  refine OW.callS C (w48 hw) (w49 hw) (w50 hw) (w51 hw) (by decide) (bC3_3 hw x1 Z0 A1 k0 k1 k2) d7_36 pd_1 rfl (argsL := [(.ref x1), (.int (0 : Int32)), (.int (3 : Int32))]) (rest := []) rfl rfl (W := 0) rfl (by decide) (by decide) (by decide) (by decide) (pc' := 39) rfl ?_
  intro vh1 h1 qh1
  obtain ⟨a2, rfl, ga2, Kh1, Aa2⟩ := qh1
  refine OG.ow (OG.astore C d7_39 rfl (ls' := #[.val (.ref x0), .val (.ref x1), .val (.int (0 : Int32)), .val (.int (3 : Int32)), .val .null, .val (.ref a2)]) rfl (pc' := 41) rfl) ?_
  refine OG.ow (OG.aloadN C d7_41 rfl rfl (pc' := 42) rfl) ?_
  refine OG.ow (OG.aload C d7_42 rfl rfl (pc' := 44) rfl) ?_
  refine OG.ow (OG.iloadN C d7_44 rfl (pc' := 45) rfl) ?_
  refine OG.ow (OG.callS C (w55 hw) (w56 hw) (w50 hw) (w57 hw) (by decide) (bCo_3 hw a2 (Nat.le_trans Z0 Kh1.1) Aa2) d7_45 pd_2 rfl (argsL := [(.ref a2), (.int (3 : Int32))]) (rest := [(.ref x0)]) rfl rfl (W := 1) rfl (by decide) (by decide) (pc' := 48) rfl) ?_
  have G3 := (F1.keep Kh1 nin0)
  have G4 := (E0.keep Kh1)
  refine OW.putF C (host := "") (Or.inl (w58 hw)) Via.refl G3 G4 (Or.inr ⟨(w59 hw), rfl, rfl⟩) (w37 hw) (ty := .byte) (by decide) rfl rfl g0 d7_48 (pc' := 51) rfl ?_
  intro h5 Wh5
  have G6 := Fld.same Wh5 G3
  refine OG.ow (OG.aloadN C d7_51 rfl rfl (pc' := 52) rfl) ?_
  refine OG.ow (OG.aload C d7_52 rfl rfl (pc' := 54) rfl) ?_
  have G7 := (Fld.other Wh5 (F0.keep Kh1 nin0) (Or.inr (slot_ne (Or.inr (w61 hw)) (Or.inr (w59 hw)) (by decide) (t := (.array .byte)) (t' := .byte) (by decide) (by decide))))
  have G8 := (Exa.wr Wh5 G4)
  refine OW.putF C (host := "") (Or.inl (w60 hw)) Via.refl G7 G8 (Or.inr ⟨(w61 hw), rfl, rfl⟩) (w37 hw) (ty := (.array .byte)) (by decide) rfl rfl g0 d7_54 (pc' := 57) rfl ?_
  intro h9 Wh9
  have G10 := Fld.same Wh9 G7
  refine OW.retV C d7_57 (by decide) (by decide) ?_
  have G11 := (Fld.other Wh9 G6 (Or.inr (slot_ne (Or.inr (w59 hw)) (Or.inr (w61 hw)) (by decide) (t := .byte) (t' := (.array .byte)) (by decide) (by decide))))
  have G12 := (OA.other (OA.other Aa2 Wh5 (Ne.symm (Nat.ne_of_lt (Nat.lt_of_lt_of_le (Nat.lt_of_lt_of_le (E0).lt (Nat.le_refl _)) ga2)))) Wh9 (Ne.symm (Nat.ne_of_lt (Nat.lt_of_lt_of_le (Nat.lt_of_lt_of_le (E0).lt (Nat.le_refl _)) ga2))))
  exact ⟨rfl, ((((Keep.refl h [x0]).trans Kh1 all0).wr Wh5 (Or.inl (List.mem_of_getElem? (i := 0) rfl))).wr Wh9 (Or.inl (List.mem_of_getElem? (i := 0) rfl))), _, (Nat.le_trans (Nat.le_refl _) ga2), G10, G11, G12⟩
theorem d6_0 : decode jdk_42_method_3_code 0 = .ok (.aload_n 0, 1) := by decide +kernel
theorem d6_1 : decode jdk_42_method_3_code 1 = .ok (.aload_n 1, 1) := by decide +kernel
theorem d6_2 : decode jdk_42_method_3_code 2 = .ok (.iconst 0, 1) := by decide +kernel
theorem d6_3 : decode jdk_42_method_3_code 3 = .ok (.aload_n 1, 1) := by decide +kernel
theorem d6_4 : decode jdk_42_method_3_code 4 = .ok (.arraylength, 1) := by decide +kernel
theorem d6_5 : decode jdk_42_method_3_code 5 = .ok (.aconst_null, 1) := by decide +kernel
theorem d6_6 : decode jdk_42_method_3_code 6 = .ok (.invokespecial 27, 3) := by decide +kernel
theorem d6_9 : decode jdk_42_method_3_code 9 = .ok (.return_, 1) := by decide +kernel
set_option maxRecDepth 65536 in
set_option maxHeartbeats 40000000 in
theorem bI1_3 {l : Launch} {Z : State} {a0 : Array Value} (hw : HW a0 Z) (x0 : Addr) (x1 : Addr) {c0 c1 c2 : Int32} {cs : Int32} {n0 : Nat} {h : Heap} (Z0 : n0 ≤ h.size) (g0 : n0 ≤ x0) (E0 : Exa Z h x0 "java/lang/String") (F0 : Fld Z h x0 "java/lang/String" "value" "[B" .null) (F1 : Fld Z h x0 "java/lang/String" "coder" "B" (.int (0 : Int32))) (A1 : OA Z h x1 .char [(.int c0), (.int c1), (.int c2)]) (S0 : Sta Z h "java/lang/String" "COMPACT_STRINGS" "Z" (.int cs)) (hcs : ¬ cs = (0 : Int32)) (k0 : ¬ (255 : Int32) < c0) (k1 : ¬ (255 : Int32) < c1) (k2 : ¬ (255 : Int32) < c2) : OM l Z (⟨"java/lang/String", "<init>", "([C)V"⟩ : MethodName) jdk_42_method_3_code 2 none ⟨3, 1, 3, 52⟩ n0 h #[(.ref x0), (.ref x1)] (fun v h' => v = none ∧ Keep h h' [x0] ∧ ∃ b : Addr, h.size ≤ b ∧ Fld Z h' x0 "java/lang/String" "value" "[B" (.ref b) ∧ Fld Z h' x0 "java/lang/String" "coder" "B" (.int (0 : Int32)) ∧ OA Z h' b .byte [(.int c0.toInt8.toInt32), (.int c1.toInt8.toInt32), (.int c2.toInt8.toInt32)]) 1 3 := by
  refine OM.of_body (ls := #[.val (.ref x0), .val (.ref x1)]) (plainFor_of_name pn_1) (fun m => by first | (simp [entryFrame, mkF, argsToLocals, Value.category]; done) | rfl) ?_
  intro p e s m below meth c C
  refine OG.ow (OG.aloadN C d6_0 rfl rfl (pc' := 1) rfl) ?_
  refine OG.ow (OG.aloadN C d6_1 rfl rfl (pc' := 2) rfl) ?_
  refine OG.ow (OG.iconst C d6_2 (z := (0 : Int32)) rfl (pc' := 3) rfl) ?_
  refine OG.ow (OG.aloadN C d6_3 rfl rfl (pc' := 4) rfl) ?_
  refine OG.ow (OG.arraylength C A1 (z := (3 : Int32)) (by first | rfl | decide) d6_4 (pc' := 5) rfl) ?_
  refine OG.ow (OG.aconst_null C d6_5 (pc' := 6) rfl) ?_
  refine OW.init C (w42 hw) (w43 hw) (w38 hw) (w45 hw) rfl (by decide) (bI5_3 hw x0 x1 Z0 g0 E0 F0 F1 A1 S0 hcs k0 k1 k2) d6_6 pd_3 rfl (argsL := [(.ref x1), (.int (0 : Int32)), (.int (3 : Int32)), .null]) (rest := []) rfl rfl (W := 0) rfl (by decide) (by decide) (by decide) (by decide) (pc' := 9) rfl ?_
  intro vh1 h1 qh1
  obtain ⟨rfl, Kh1, a2, ga2, Vh1, Ch1, Aa2⟩ := qh1
  refine OW.retV C d6_9 (by decide) (by decide) ?_
  exact ⟨rfl, ((Keep.refl h [x0]).trans Kh1 (allS (Or.inl (List.mem_of_getElem? (i := 0) rfl)) all0)), _, ga2, Vh1, Ch1, Aa2⟩
theorem d13_0 : decode jdk_42_method_152_code 0 = .ok (.getstatic 38, 3) := by decide +kernel
theorem d13_3 : decode jdk_42_method_152_code 3 = .ok (.ifCond .eq 10, 3) := by decide +kernel
theorem d13_6 : decode jdk_42_method_152_code 6 = .ok (.aload_n 0, 1) := by decide +kernel
theorem d13_7 : decode jdk_42_method_152_code 7 = .ok (.getfield 15, 3) := by decide +kernel
theorem d13_10 : decode jdk_42_method_152_code 10 = .ok (.goto 4, 3) := by decide +kernel
theorem d13_13 : decode jdk_42_method_152_code 13 = .ok (.iconst 1, 1) := by decide +kernel
theorem d13_14 : decode jdk_42_method_152_code 14 = .ok (.ireturn, 1) := by decide +kernel
set_option maxRecDepth 65536 in
set_option maxHeartbeats 40000000 in
theorem b13 {l : Launch} {Z : State} {a0 : Array Value} (hw : HW a0 Z) (x0 : Addr) {cs : Int32} {n0 : Nat} {h : Heap} (Z0 : n0 ≤ h.size) (F1 : Fld Z h x0 "java/lang/String" "coder" "B" (.int (0 : Int32))) (S0 : Sta Z h "java/lang/String" "COMPACT_STRINGS" "Z" (.int cs)) (hcs : ¬ cs = (0 : Int32)) : OM l Z (⟨"java/lang/String", "coder", "()B"⟩ : MethodName) jdk_42_method_152_code 1 (some .byte) ⟨0, 0, 0, 0⟩ n0 h #[(.ref x0)] (fun v h' => v = some (.int (0 : Int32)) ∧ h' = h) 0 0 := by
  refine OM.of_body (ls := #[.val (.ref x0)]) (plainFor_of_name pn_1) (fun m => by first | (simp [entryFrame, mkF, argsToLocals, Value.category]; done) | rfl) ?_
  intro p e s m below meth c C
  refine OG.ow (OG.getS C (host := "") (Or.inl (w47 hw)) Via.refl S0 d13_0 (pc' := 3) rfl) ?_
  refine OG.ow (OG.ifNo C d13_3 ((if0 _ _).trans (feq hcs).1) (pc' := 6) rfl) ?_
  refine OG.ow (OG.aloadN C d13_6 rfl rfl (pc' := 7) rfl) ?_
  refine OG.ow (OG.getF C (host := "") (Or.inl (w58 hw)) Via.refl F1 d13_7 (pc' := 10) rfl) ?_
  refine OG.ow (OG.goto C d13_10 (by decide) (pc' := 14) (by decide)) ?_
  refine OW.retN (t := .byte) C (by simp) d13_14 (by decide) (by decide) ?_
  exact ⟨rfl, rfl⟩
theorem d12_0 : decode jdk_42_method_54_code 0 = .ok (.aload_n 0, 1) := by decide +kernel
theorem d12_1 : decode jdk_42_method_54_code 1 = .ok (.getfield 9, 3) := by decide +kernel
theorem d12_4 : decode jdk_42_method_54_code 4 = .ok (.arraylength, 1) := by decide +kernel
theorem d12_5 : decode jdk_42_method_54_code 5 = .ok (.aload_n 0, 1) := by decide +kernel
theorem d12_6 : decode jdk_42_method_54_code 6 = .ok (.invokevirtual 335, 3) := by decide +kernel
theorem d12_9 : decode jdk_42_method_54_code 9 = .ok (.ishr, 1) := by decide +kernel
theorem d12_10 : decode jdk_42_method_54_code 10 = .ok (.ireturn, 1) := by decide +kernel
set_option maxRecDepth 65536 in
set_option maxHeartbeats 40000000 in
theorem b12 {l : Launch} {Z : State} {a0 : Array Value} (hw : HW a0 Z) (x0 : Addr) {b0_ b1_ b2_ : Int32} {q : Addr} {cs : Int32} {n0 : Nat} {h : Heap} (Z0 : n0 ≤ h.size) (E0 : Exa Z h x0 "java/lang/String") (F0 : Fld Z h x0 "java/lang/String" "value" "[B" (.ref q)) (F1 : Fld Z h x0 "java/lang/String" "coder" "B" (.int (0 : Int32))) (A0 : OA Z h q .byte [(.int b0_), (.int b1_), (.int b2_)]) (S0 : Sta Z h "java/lang/String" "COMPACT_STRINGS" "Z" (.int cs)) (hcs : ¬ cs = (0 : Int32)) : OM l Z (⟨"java/lang/String", "length", "()I"⟩ : MethodName) jdk_42_method_54_code 1 (some .int) ⟨1, 0, 0, 13⟩ n0 h #[(.ref x0)] (fun v h' => v = some (.int (3 : Int32)) ∧ h' = h) 0 0 := by
  refine OM.of_body (ls := #[.val (.ref x0)]) (plainFor_of_name pn_1) (fun m => by first | (simp [entryFrame, mkF, argsToLocals, Value.category]; done) | rfl) ?_
  intro p e s m below meth c C
  refine OG.ow (OG.aloadN C d12_0 rfl rfl (pc' := 1) rfl) ?_
  refine OG.ow (OG.getF C (host := "") (Or.inl (w60 hw)) Via.refl F0 d12_1 (pc' := 4) rfl) ?_
  refine OG.ow (OG.arraylength C A0 (z := (3 : Int32)) (by first | rfl | decide) d12_4 (pc' := 5) rfl) ?_
  refine OG.ow (OG.aloadN C d12_5 rfl rfl (pc' := 6) rfl) ?_
  refine OG.ow (OG.callV C (w75 hw) (w76 hw) (w78 hw) (w77 hw) (w38 hw) (w79 hw) (by decide) E0 (b13 hw x0 Z0 F1 S0 hcs) d12_6 pd_4 rfl (argsL := []) (rest := [(.int (3 : Int32))]) rfl rfl (W := 1) rfl (by decide) (by decide) (pc' := 9) rfl) ?_
  refine OG.ow (OG.cast (OG.ishr C d12_9 (pc' := 10) rfl) (own_fr (z := (3 : Int32)) (by decide))) ?_
  refine OW.retI C d12_10 (by decide) (by decide) ?_
  exact ⟨rfl, rfl⟩
theorem d15_0 : decode jdk_42_method_154_code 0 = .ok (.getstatic 38, 3) := by decide +kernel
theorem d15_3 : decode jdk_42_method_154_code 3 = .ok (.ifCond .eq 14, 3) := by decide +kernel
theorem d15_6 : decode jdk_42_method_154_code 6 = .ok (.aload_n 0, 1) := by decide +kernel
theorem d15_7 : decode jdk_42_method_154_code 7 = .ok (.getfield 15, 3) := by decide +kernel
theorem d15_10 : decode jdk_42_method_154_code 10 = .ok (.ifCond .ne 7, 3) := by decide +kernel
theorem d15_13 : decode jdk_42_method_154_code 13 = .ok (.iconst 1, 1) := by decide +kernel
theorem d15_14 : decode jdk_42_method_154_code 14 = .ok (.goto 4, 3) := by decide +kernel
theorem d15_17 : decode jdk_42_method_154_code 17 = .ok (.iconst 0, 1) := by decide +kernel
theorem d15_18 : decode jdk_42_method_154_code 18 = .ok (.ireturn, 1) := by decide +kernel
set_option maxRecDepth 65536 in
set_option maxHeartbeats 40000000 in
theorem b15 {l : Launch} {Z : State} {a0 : Array Value} (hw : HW a0 Z) (x0 : Addr) {cs : Int32} {n0 : Nat} {h : Heap} (Z0 : n0 ≤ h.size) (F1 : Fld Z h x0 "java/lang/String" "coder" "B" (.int (0 : Int32))) (S0 : Sta Z h "java/lang/String" "COMPACT_STRINGS" "Z" (.int cs)) (hcs : ¬ cs = (0 : Int32)) : OM l Z (⟨"java/lang/String", "isLatin1", "()Z"⟩ : MethodName) jdk_42_method_154_code 1 (some .boolean) ⟨0, 0, 0, 0⟩ n0 h #[(.ref x0)] (fun v h' => v = some (.int (1 : Int32)) ∧ h' = h) 0 0 := by
  refine OM.of_body (ls := #[.val (.ref x0)]) (plainFor_of_name pn_1) (fun m => by first | (simp [entryFrame, mkF, argsToLocals, Value.category]; done) | rfl) ?_
  intro p e s m below meth c C
  refine OG.ow (OG.getS C (host := "") (Or.inl (w47 hw)) Via.refl S0 d15_0 (pc' := 3) rfl) ?_
  refine OG.ow (OG.ifNo C d15_3 ((if0 _ _).trans (feq hcs).1) (pc' := 6) rfl) ?_
  refine OG.ow (OG.aloadN C d15_6 rfl rfl (pc' := 7) rfl) ?_
  refine OG.ow (OG.getF C (host := "") (Or.inl (w58 hw)) Via.refl F1 d15_7 (pc' := 10) rfl) ?_
  refine OG.ow (OG.ifNo C d15_10 ((if0 _ _).trans (teq (by decide : (0 : Int32) = (0 : Int32))).2) (pc' := 13) rfl) ?_
  refine OG.ow (OG.iconst C d15_13 (z := (1 : Int32)) rfl (pc' := 14) rfl) ?_
  refine OG.ow (OG.goto C d15_14 (by decide) (pc' := 18) (by decide)) ?_
  refine OW.retN (t := .boolean) C (by simp) d15_18 (by decide) (by decide) ?_
  exact ⟨rfl, rfl⟩
theorem d18_0 : decode jdk_41_method_11_code 0 = .ok (.iload_n 0, 1) := by decide +kernel
theorem d18_1 : decode jdk_41_method_11_code 1 = .ok (.ifCond .lt 8, 3) := by decide +kernel
theorem d18_4 : decode jdk_41_method_11_code 4 = .ok (.iload_n 0, 1) := by decide +kernel
theorem d18_5 : decode jdk_41_method_11_code 5 = .ok (.iload_n 1, 1) := by decide +kernel
theorem d18_6 : decode jdk_41_method_11_code 6 = .ok (.if_icmp .lt 10, 3) := by decide +kernel
theorem d18_9 : decode jdk_41_method_11_code 9 = .ok (.aload_n 2, 1) := by decide +kernel
theorem d18_10 : decode jdk_41_method_11_code 10 = .ok (.iload_n 0, 1) := by decide +kernel
theorem d18_11 : decode jdk_41_method_11_code 11 = .ok (.iload_n 1, 1) := by decide +kernel
theorem d18_12 : decode jdk_41_method_11_code 12 = .ok (.invokestatic 95, 3) := by decide +kernel
theorem d18_15 : decode jdk_41_method_11_code 15 = .ok (.athrow, 1) := by decide +kernel
theorem d18_16 : decode jdk_41_method_11_code 16 = .ok (.iload_n 0, 1) := by decide +kernel
theorem d18_17 : decode jdk_41_method_11_code 17 = .ok (.ireturn, 1) := by decide +kernel
set_option maxRecDepth 65536 in
set_option maxHeartbeats 40000000 in
theorem bPC_0 {l : Launch} {Z : State} {a0 : Array Value} (hw : HW a0 Z) (x2 : Value) (rx2 : x2.isRef = true) {n0 : Nat} {h : Heap} (Z0 : n0 ≤ h.size) : OM l Z (⟨"jdk/internal/util/Preconditions", "checkIndex", "(IILjava/util/function/BiFunction;)I"⟩ : MethodName) jdk_41_method_11_code 3 (some .int) ⟨0, 0, 0, 0⟩ n0 h #[(.int (0 : Int32)), (.int (3 : Int32)), x2] (fun v h' => v = some (.int (0 : Int32)) ∧ h' = h) 0 0 := by
  refine OM.of_body (ls := #[.val (.int (0 : Int32)), .val (.int (3 : Int32)), .val x2]) (plainFor_of_name pn_2) (fun m => by rcases ref_cases rx2 with rfl | ⟨_, rfl⟩ <;> first | (simp [entryFrame, mkF, argsToLocals, Value.category]; done) | rfl) ?_
  intro p e s m below meth c C
  refine OG.ow (OG.iloadN C d18_0 rfl (pc' := 1) rfl) ?_
  refine OG.ow (OG.ifNo C d18_1 ((if0 _ _).trans (flt (by decide : ¬ ((0 : Int32) < (0 : Int32)))).1) (pc' := 4) rfl) ?_
  refine OG.ow (OG.iloadN C d18_4 rfl (pc' := 5) rfl) ?_
  refine OG.ow (OG.iloadN C d18_5 rfl (pc' := 6) rfl) ?_
  refine OG.ow (OG.icmpYes C d18_6 (tlt (by decide : (0 : Int32) < (3 : Int32))).1 (by decide) (pc' := 16) (by decide)) ?_
  refine OG.ow (OG.iloadN C d18_16 rfl (pc' := 17) rfl) ?_
  refine OW.retI C d18_17 (by decide) (by decide) ?_
  exact ⟨rfl, rfl⟩
theorem d17_0 : decode jdk_42_method_155_code 0 = .ok (.iload_n 0, 1) := by decide +kernel
theorem d17_1 : decode jdk_42_method_155_code 1 = .ok (.iload_n 1, 1) := by decide +kernel
theorem d17_2 : decode jdk_42_method_155_code 2 = .ok (.getstatic 1053, 3) := by decide +kernel
theorem d17_5 : decode jdk_42_method_155_code 5 = .ok (.invokestatic 1059, 3) := by decide +kernel
theorem d17_8 : decode jdk_42_method_155_code 8 = .ok (.pop, 1) := by decide +kernel
theorem d17_9 : decode jdk_42_method_155_code 9 = .ok (.return_, 1) := by decide +kernel
set_option maxRecDepth 65536 in
set_option maxHeartbeats 40000000 in
theorem bSC_0 {l : Launch} {Z : State} {a0 : Array Value} (hw : HW a0 Z)  {fm : Value} {n0 : Nat} {h : Heap} (Z0 : n0 ≤ h.size) (S1 : Sta Z h "jdk/internal/util/Preconditions" "SIOOBE_FORMATTER" "Ljava/util/function/BiFunction;" fm) (rfm : fm.isRef = true) : OM l Z (⟨"java/lang/String", "checkIndex", "(II)V"⟩ : MethodName) jdk_42_method_155_code 2 none ⟨1, 0, 0, 14⟩ n0 h #[(.int (0 : Int32)), (.int (3 : Int32))] (fun v h' => v = none ∧ h' = h) 0 0 := by
  refine OM.of_body (ls := #[.val (.int (0 : Int32)), .val (.int (3 : Int32))]) (plainFor_of_name pn_1) (fun m => by first | (simp [entryFrame, mkF, argsToLocals, Value.category]; done) | rfl) ?_
  intro p e s m below meth c C
  refine OG.ow (OG.iloadN C d17_0 rfl (pc' := 1) rfl) ?_
  refine OG.ow (OG.iloadN C d17_1 rfl (pc' := 2) rfl) ?_
  refine OG.ow (OG.getS C (host := "") (Or.inl (w100 hw)) Via.refl S1 d17_2 (pc' := 5) rfl) ?_
  refine OG.ow (OG.callS C (w102 hw) (w103 hw) (w101 hw) (w104 hw) (by decide) (bPC_0 hw fm rfm Z0) d17_5 pd_5 rfl (argsL := [(.int (0 : Int32)), (.int (3 : Int32)), fm]) (rest := []) rfl rfl (W := 0) rfl (by decide) (by decide) (pc' := 8) rfl) ?_
  refine OG.ow (OG.pop C d17_8 rfl (pc' := 9) rfl) ?_
  refine OW.retV C d17_9 (by decide) (by decide) ?_
  exact ⟨rfl, rfl⟩
theorem own_ch_0 (b : Int32) : nar .char (b &&& (255 : Int32)).toUInt32.toUInt16.toUInt32.toInt32 = b &&& (255 : Int32) := by
  rw [i2c_mask]
  show (b &&& (255 : Int32)).toUInt32.toUInt16.toUInt32.toInt32 = _
  rw [i2c_mask]
theorem d16_0 : decode jdk_43_method_2_code 0 = .ok (.iload_n 1, 1) := by decide +kernel
theorem d16_1 : decode jdk_43_method_2_code 1 = .ok (.aload_n 0, 1) := by decide +kernel
theorem d16_2 : decode jdk_43_method_2_code 2 = .ok (.arraylength, 1) := by decide +kernel
theorem d16_3 : decode jdk_43_method_2_code 3 = .ok (.invokestatic 9, 3) := by decide +kernel
theorem d16_6 : decode jdk_43_method_2_code 6 = .ok (.aload_n 0, 1) := by decide +kernel
theorem d16_7 : decode jdk_43_method_2_code 7 = .ok (.iload_n 1, 1) := by decide +kernel
theorem d16_8 : decode jdk_43_method_2_code 8 = .ok (.baload, 1) := by decide +kernel
theorem d16_9 : decode jdk_43_method_2_code 9 = .ok (.sipush 255, 3) := by decide +kernel
theorem d16_12 : decode jdk_43_method_2_code 12 = .ok (.iand, 1) := by decide +kernel
theorem d16_13 : decode jdk_43_method_2_code 13 = .ok (.i2c, 1) := by decide +kernel
theorem d16_14 : decode jdk_43_method_2_code 14 = .ok (.ireturn, 1) := by decide +kernel
set_option maxRecDepth 65536 in
set_option maxHeartbeats 40000000 in
theorem bLC_0 {l : Launch} {Z : State} {a0 : Array Value} (hw : HW a0 Z) (q : Addr) {b0_ b1_ b2_ : Int32} {fm : Value} {n0 : Nat} {h : Heap} (Z0 : n0 ≤ h.size) (A0 : OA Z h q .byte [(.int b0_), (.int b1_), (.int b2_)]) (S1 : Sta Z h "jdk/internal/util/Preconditions" "SIOOBE_FORMATTER" "Ljava/util/function/BiFunction;" fm) (rfm : fm.isRef = true) : OM l Z (⟨"java/lang/StringLatin1", "charAt", "([BI)C"⟩ : MethodName) jdk_43_method_2_code 2 (some .char) ⟨2, 0, 0, 27⟩ n0 h #[(.ref q), (.int (0 : Int32))] (fun v h' => v = some (.int (b0_ &&& (255 : Int32))) ∧ h' = h) 0 0 := by
  refine OM.of_body (ls := #[.val (.ref q), .val (.int (0 : Int32))]) (plainFor_of_name pn_3) (fun m => by first | (simp [entryFrame, mkF, argsToLocals, Value.category]; done) | rfl) ?_
  intro p e s m below meth c C
  refine OG.ow (OG.iloadN C d16_0 rfl (pc' := 1) rfl) ?_
  refine OG.ow (OG.aloadN C d16_1 rfl rfl (pc' := 2) rfl) ?_
  refine OG.ow (OG.arraylength C A0 (z := (3 : Int32)) (by first | rfl | decide) d16_2 (pc' := 3) rfl) ?_
  refine OG.ow (OG.callSV C (w97 hw) (w98 hw) (w38 hw) (w99 hw) (by decide) (bSC_0 hw Z0 S1 rfm) d16_3 pd_6 rfl (argsL := [(.int (0 : Int32)), (.int (3 : Int32))]) (rest := []) rfl rfl (W := 0) rfl (by decide) (by decide) (pc' := 6) rfl) ?_
  refine OG.ow (OG.aloadN C d16_6 rfl rfl (pc' := 7) rfl) ?_
  refine OG.ow (OG.iloadN C d16_7 rfl (pc' := 8) rfl) ?_
  refine OG.ow (OG.baload C A0 (own_ib (n := 3) rfl (by decide)) rfl d16_8 (pc' := 9) rfl) ?_
  refine OG.ow (OG.sipush C d16_9 (z := (255 : Int32)) (by decide) (pc' := 12) rfl) ?_
  refine OG.ow (OG.iand C d16_12 (pc' := 13) rfl) ?_
  refine OG.ow (OG.i2c C d16_13 (pc' := 14) rfl) ?_
  refine OW.retN (t := .char) C (by simp) d16_14 (by decide) (by decide) ?_
  exact ⟨by rw [own_ch_0], rfl⟩
theorem own_cc_0 (b : Int32) : nar .char (b &&& (255 : Int32)) = b &&& (255 : Int32) := by
  show (b &&& (255 : Int32)).toUInt32.toUInt16.toUInt32.toInt32 = _
  rw [i2c_mask]
theorem d14_0 : decode jdk_42_method_56_code 0 = .ok (.aload_n 0, 1) := by decide +kernel
theorem d14_1 : decode jdk_42_method_56_code 1 = .ok (.invokevirtual 492, 3) := by decide +kernel
theorem d14_4 : decode jdk_42_method_56_code 4 = .ok (.ifCond .eq 12, 3) := by decide +kernel
theorem d14_7 : decode jdk_42_method_56_code 7 = .ok (.aload_n 0, 1) := by decide +kernel
theorem d14_8 : decode jdk_42_method_56_code 8 = .ok (.getfield 9, 3) := by decide +kernel
theorem d14_11 : decode jdk_42_method_56_code 11 = .ok (.iload_n 1, 1) := by decide +kernel
theorem d14_12 : decode jdk_42_method_56_code 12 = .ok (.invokestatic 495, 3) := by decide +kernel
theorem d14_15 : decode jdk_42_method_56_code 15 = .ok (.ireturn, 1) := by decide +kernel
theorem d14_16 : decode jdk_42_method_56_code 16 = .ok (.aload_n 0, 1) := by decide +kernel
theorem d14_17 : decode jdk_42_method_56_code 17 = .ok (.getfield 9, 3) := by decide +kernel
theorem d14_20 : decode jdk_42_method_56_code 20 = .ok (.iload_n 1, 1) := by decide +kernel
theorem d14_21 : decode jdk_42_method_56_code 21 = .ok (.invokestatic 498, 3) := by decide +kernel
theorem d14_24 : decode jdk_42_method_56_code 24 = .ok (.ireturn, 1) := by decide +kernel
set_option maxRecDepth 65536 in
set_option maxHeartbeats 40000000 in
theorem bSA_0 {l : Launch} {Z : State} {a0 : Array Value} (hw : HW a0 Z) (x0 : Addr) {b0_ b1_ b2_ : Int32} {q : Addr} {cs : Int32} {fm : Value} {n0 : Nat} {h : Heap} (Z0 : n0 ≤ h.size) (E0 : Exa Z h x0 "java/lang/String") (F0 : Fld Z h x0 "java/lang/String" "value" "[B" (.ref q)) (F1 : Fld Z h x0 "java/lang/String" "coder" "B" (.int (0 : Int32))) (A0 : OA Z h q .byte [(.int b0_), (.int b1_), (.int b2_)]) (S0 : Sta Z h "java/lang/String" "COMPACT_STRINGS" "Z" (.int cs)) (S1 : Sta Z h "jdk/internal/util/Preconditions" "SIOOBE_FORMATTER" "Ljava/util/function/BiFunction;" fm) (hcs : ¬ cs = (0 : Int32)) (rfm : fm.isRef = true) : OM l Z (⟨"java/lang/String", "charAt", "(I)C"⟩ : MethodName) jdk_42_method_56_code 2 (some .char) ⟨3, 0, 0, 40⟩ n0 h #[(.ref x0), (.int (0 : Int32))] (fun v h' => v = some (.int (b0_ &&& (255 : Int32))) ∧ h' = h) 0 0 := by
  refine OM.of_body (ls := #[.val (.ref x0), .val (.int (0 : Int32))]) (plainFor_of_name pn_1) (fun m => by first | (simp [entryFrame, mkF, argsToLocals, Value.category]; done) | rfl) ?_
  intro p e s m below meth c C
  refine OG.ow (OG.aloadN C d14_0 rfl rfl (pc' := 1) rfl) ?_
  refine OG.ow (OG.callV C (w88 hw) (w89 hw) (w91 hw) (w90 hw) (w38 hw) (w92 hw) (by decide) E0 (b15 hw x0 Z0 F1 S0 hcs) d14_1 pd_7 rfl (argsL := []) (rest := []) rfl rfl (W := 0) rfl (by decide) (by decide) (pc' := 4) rfl) ?_
  refine OG.ow (OG.ifNo C d14_4 ((if0 _ _).trans (feq (by decide : ¬ ((1 : Int32) = (0 : Int32)))).1) (pc' := 7) rfl) ?_
  refine OG.ow (OG.aloadN C d14_7 rfl rfl (pc' := 8) rfl) ?_
  refine OG.ow (OG.getF C (host := "") (Or.inl (w60 hw)) Via.refl F0 d14_8 (pc' := 11) rfl) ?_
  refine OG.ow (OG.iloadN C d14_11 rfl (pc' := 12) rfl) ?_
  refine OG.ow (OG.callS C (w93 hw) (w94 hw) (w95 hw) (w96 hw) (by decide) (bLC_0 hw q Z0 A0 S1 rfm) d14_12 pd_8 rfl (argsL := [(.ref q), (.int (0 : Int32))]) (rest := []) rfl rfl (W := 0) rfl (by decide) (by decide) (pc' := 15) rfl) ?_
  refine OW.retN (t := .char) C (by simp) d14_15 (by decide) (by decide) ?_
  exact ⟨congrArg (fun z => some (Value.int z)) (own_cc_0 _), rfl⟩
set_option maxRecDepth 65536 in
set_option maxHeartbeats 40000000 in
theorem bPC_1 {l : Launch} {Z : State} {a0 : Array Value} (hw : HW a0 Z) (x2 : Value) (rx2 : x2.isRef = true) {n0 : Nat} {h : Heap} (Z0 : n0 ≤ h.size) : OM l Z (⟨"jdk/internal/util/Preconditions", "checkIndex", "(IILjava/util/function/BiFunction;)I"⟩ : MethodName) jdk_41_method_11_code 3 (some .int) ⟨0, 0, 0, 0⟩ n0 h #[(.int (1 : Int32)), (.int (3 : Int32)), x2] (fun v h' => v = some (.int (1 : Int32)) ∧ h' = h) 0 0 := by
  refine OM.of_body (ls := #[.val (.int (1 : Int32)), .val (.int (3 : Int32)), .val x2]) (plainFor_of_name pn_2) (fun m => by rcases ref_cases rx2 with rfl | ⟨_, rfl⟩ <;> first | (simp [entryFrame, mkF, argsToLocals, Value.category]; done) | rfl) ?_
  intro p e s m below meth c C
  refine OG.ow (OG.iloadN C d18_0 rfl (pc' := 1) rfl) ?_
  refine OG.ow (OG.ifNo C d18_1 ((if0 _ _).trans (flt (by decide : ¬ ((1 : Int32) < (0 : Int32)))).1) (pc' := 4) rfl) ?_
  refine OG.ow (OG.iloadN C d18_4 rfl (pc' := 5) rfl) ?_
  refine OG.ow (OG.iloadN C d18_5 rfl (pc' := 6) rfl) ?_
  refine OG.ow (OG.icmpYes C d18_6 (tlt (by decide : (1 : Int32) < (3 : Int32))).1 (by decide) (pc' := 16) (by decide)) ?_
  refine OG.ow (OG.iloadN C d18_16 rfl (pc' := 17) rfl) ?_
  refine OW.retI C d18_17 (by decide) (by decide) ?_
  exact ⟨rfl, rfl⟩
set_option maxRecDepth 65536 in
set_option maxHeartbeats 40000000 in
theorem bSC_1 {l : Launch} {Z : State} {a0 : Array Value} (hw : HW a0 Z)  {fm : Value} {n0 : Nat} {h : Heap} (Z0 : n0 ≤ h.size) (S1 : Sta Z h "jdk/internal/util/Preconditions" "SIOOBE_FORMATTER" "Ljava/util/function/BiFunction;" fm) (rfm : fm.isRef = true) : OM l Z (⟨"java/lang/String", "checkIndex", "(II)V"⟩ : MethodName) jdk_42_method_155_code 2 none ⟨1, 0, 0, 14⟩ n0 h #[(.int (1 : Int32)), (.int (3 : Int32))] (fun v h' => v = none ∧ h' = h) 0 0 := by
  refine OM.of_body (ls := #[.val (.int (1 : Int32)), .val (.int (3 : Int32))]) (plainFor_of_name pn_1) (fun m => by first | (simp [entryFrame, mkF, argsToLocals, Value.category]; done) | rfl) ?_
  intro p e s m below meth c C
  refine OG.ow (OG.iloadN C d17_0 rfl (pc' := 1) rfl) ?_
  refine OG.ow (OG.iloadN C d17_1 rfl (pc' := 2) rfl) ?_
  refine OG.ow (OG.getS C (host := "") (Or.inl (w100 hw)) Via.refl S1 d17_2 (pc' := 5) rfl) ?_
  refine OG.ow (OG.callS C (w102 hw) (w103 hw) (w101 hw) (w104 hw) (by decide) (bPC_1 hw fm rfm Z0) d17_5 pd_5 rfl (argsL := [(.int (1 : Int32)), (.int (3 : Int32)), fm]) (rest := []) rfl rfl (W := 0) rfl (by decide) (by decide) (pc' := 8) rfl) ?_
  refine OG.ow (OG.pop C d17_8 rfl (pc' := 9) rfl) ?_
  refine OW.retV C d17_9 (by decide) (by decide) ?_
  exact ⟨rfl, rfl⟩
theorem own_ch_1 (b : Int32) : nar .char (b &&& (255 : Int32)).toUInt32.toUInt16.toUInt32.toInt32 = b &&& (255 : Int32) := by
  rw [i2c_mask]
  show (b &&& (255 : Int32)).toUInt32.toUInt16.toUInt32.toInt32 = _
  rw [i2c_mask]
set_option maxRecDepth 65536 in
set_option maxHeartbeats 40000000 in
theorem bLC_1 {l : Launch} {Z : State} {a0 : Array Value} (hw : HW a0 Z) (q : Addr) {b0_ b1_ b2_ : Int32} {fm : Value} {n0 : Nat} {h : Heap} (Z0 : n0 ≤ h.size) (A0 : OA Z h q .byte [(.int b0_), (.int b1_), (.int b2_)]) (S1 : Sta Z h "jdk/internal/util/Preconditions" "SIOOBE_FORMATTER" "Ljava/util/function/BiFunction;" fm) (rfm : fm.isRef = true) : OM l Z (⟨"java/lang/StringLatin1", "charAt", "([BI)C"⟩ : MethodName) jdk_43_method_2_code 2 (some .char) ⟨2, 0, 0, 27⟩ n0 h #[(.ref q), (.int (1 : Int32))] (fun v h' => v = some (.int (b1_ &&& (255 : Int32))) ∧ h' = h) 0 0 := by
  refine OM.of_body (ls := #[.val (.ref q), .val (.int (1 : Int32))]) (plainFor_of_name pn_3) (fun m => by first | (simp [entryFrame, mkF, argsToLocals, Value.category]; done) | rfl) ?_
  intro p e s m below meth c C
  refine OG.ow (OG.iloadN C d16_0 rfl (pc' := 1) rfl) ?_
  refine OG.ow (OG.aloadN C d16_1 rfl rfl (pc' := 2) rfl) ?_
  refine OG.ow (OG.arraylength C A0 (z := (3 : Int32)) (by first | rfl | decide) d16_2 (pc' := 3) rfl) ?_
  refine OG.ow (OG.callSV C (w97 hw) (w98 hw) (w38 hw) (w99 hw) (by decide) (bSC_1 hw Z0 S1 rfm) d16_3 pd_6 rfl (argsL := [(.int (1 : Int32)), (.int (3 : Int32))]) (rest := []) rfl rfl (W := 0) rfl (by decide) (by decide) (pc' := 6) rfl) ?_
  refine OG.ow (OG.aloadN C d16_6 rfl rfl (pc' := 7) rfl) ?_
  refine OG.ow (OG.iloadN C d16_7 rfl (pc' := 8) rfl) ?_
  refine OG.ow (OG.baload C A0 (own_ib (n := 3) rfl (by decide)) rfl d16_8 (pc' := 9) rfl) ?_
  refine OG.ow (OG.sipush C d16_9 (z := (255 : Int32)) (by decide) (pc' := 12) rfl) ?_
  refine OG.ow (OG.iand C d16_12 (pc' := 13) rfl) ?_
  refine OG.ow (OG.i2c C d16_13 (pc' := 14) rfl) ?_
  refine OW.retN (t := .char) C (by simp) d16_14 (by decide) (by decide) ?_
  exact ⟨by rw [own_ch_1], rfl⟩
theorem own_cc_1 (b : Int32) : nar .char (b &&& (255 : Int32)) = b &&& (255 : Int32) := by
  show (b &&& (255 : Int32)).toUInt32.toUInt16.toUInt32.toInt32 = _
  rw [i2c_mask]
set_option maxRecDepth 65536 in
set_option maxHeartbeats 40000000 in
theorem bSA_1 {l : Launch} {Z : State} {a0 : Array Value} (hw : HW a0 Z) (x0 : Addr) {b0_ b1_ b2_ : Int32} {q : Addr} {cs : Int32} {fm : Value} {n0 : Nat} {h : Heap} (Z0 : n0 ≤ h.size) (E0 : Exa Z h x0 "java/lang/String") (F0 : Fld Z h x0 "java/lang/String" "value" "[B" (.ref q)) (F1 : Fld Z h x0 "java/lang/String" "coder" "B" (.int (0 : Int32))) (A0 : OA Z h q .byte [(.int b0_), (.int b1_), (.int b2_)]) (S0 : Sta Z h "java/lang/String" "COMPACT_STRINGS" "Z" (.int cs)) (S1 : Sta Z h "jdk/internal/util/Preconditions" "SIOOBE_FORMATTER" "Ljava/util/function/BiFunction;" fm) (hcs : ¬ cs = (0 : Int32)) (rfm : fm.isRef = true) : OM l Z (⟨"java/lang/String", "charAt", "(I)C"⟩ : MethodName) jdk_42_method_56_code 2 (some .char) ⟨3, 0, 0, 40⟩ n0 h #[(.ref x0), (.int (1 : Int32))] (fun v h' => v = some (.int (b1_ &&& (255 : Int32))) ∧ h' = h) 0 0 := by
  refine OM.of_body (ls := #[.val (.ref x0), .val (.int (1 : Int32))]) (plainFor_of_name pn_1) (fun m => by first | (simp [entryFrame, mkF, argsToLocals, Value.category]; done) | rfl) ?_
  intro p e s m below meth c C
  refine OG.ow (OG.aloadN C d14_0 rfl rfl (pc' := 1) rfl) ?_
  refine OG.ow (OG.callV C (w88 hw) (w89 hw) (w91 hw) (w90 hw) (w38 hw) (w92 hw) (by decide) E0 (b15 hw x0 Z0 F1 S0 hcs) d14_1 pd_7 rfl (argsL := []) (rest := []) rfl rfl (W := 0) rfl (by decide) (by decide) (pc' := 4) rfl) ?_
  refine OG.ow (OG.ifNo C d14_4 ((if0 _ _).trans (feq (by decide : ¬ ((1 : Int32) = (0 : Int32)))).1) (pc' := 7) rfl) ?_
  refine OG.ow (OG.aloadN C d14_7 rfl rfl (pc' := 8) rfl) ?_
  refine OG.ow (OG.getF C (host := "") (Or.inl (w60 hw)) Via.refl F0 d14_8 (pc' := 11) rfl) ?_
  refine OG.ow (OG.iloadN C d14_11 rfl (pc' := 12) rfl) ?_
  refine OG.ow (OG.callS C (w93 hw) (w94 hw) (w95 hw) (w96 hw) (by decide) (bLC_1 hw q Z0 A0 S1 rfm) d14_12 pd_8 rfl (argsL := [(.ref q), (.int (1 : Int32))]) (rest := []) rfl rfl (W := 0) rfl (by decide) (by decide) (pc' := 15) rfl) ?_
  refine OW.retN (t := .char) C (by simp) d14_15 (by decide) (by decide) ?_
  exact ⟨congrArg (fun z => some (Value.int z)) (own_cc_1 _), rfl⟩
theorem d1_0 : decode method_2_code 0 = .ok (.iload_n 0, 1) := by decide +kernel
theorem d1_1 : decode method_2_code 1 = .ok (.iconst 1, 1) := by decide +kernel
theorem d1_2 : decode method_2_code 2 = .ok (.iand, 1) := by decide +kernel
theorem d1_3 : decode method_2_code 3 = .ok (.ifCond .ne 8, 3) := by decide +kernel
theorem d1_6 : decode method_2_code 6 = .ok (.bipush 48, 2) := by decide +kernel
theorem d1_8 : decode method_2_code 8 = .ok (.goto 11, 3) := by decide +kernel
theorem d1_11 : decode method_2_code 11 = .ok (.iload_n 0, 1) := by decide +kernel
theorem d1_12 : decode method_2_code 12 = .ok (.iconst 1, 1) := by decide +kernel
theorem d1_13 : decode method_2_code 13 = .ok (.iushr, 1) := by decide +kernel
theorem d1_14 : decode method_2_code 14 = .ok (.sipush 255, 3) := by decide +kernel
theorem d1_17 : decode method_2_code 17 = .ok (.iand, 1) := by decide +kernel
theorem d1_18 : decode method_2_code 18 = .ok (.i2c, 1) := by decide +kernel
theorem d1_19 : decode method_2_code 19 = .ok (.ireturn, 1) := by decide +kernel
def F1 (x0 : Int32) : Int32 := (if (x0 &&& (1 : Int32)) = (0 : Int32) then (48 : Int32) else ((x0.toUInt32 >>> ((1 : Int32) &&& 31).toUInt32).toInt32 &&& (255 : Int32)).toUInt32.toUInt16.toUInt32.toInt32)
set_option maxRecDepth 65536 in
set_option maxHeartbeats 40000000 in
theorem b1 {l : Launch} {Z : State} {a0 : Array Value} (hw : HW a0 Z) (x0 : Int32) {n0 : Nat} {h : Heap}  : OM l Z (⟨"com/example/kartoteka/kartoteka/model/StoredRecordIsControlPinLaw", "pick", "(I)C"⟩ : MethodName) method_2_code 1 (some .char) ⟨0, 0, 0, 0⟩ n0 h #[(.int x0)] (fun v h' => v = some (.int (nar .char (F1 x0))) ∧ h' = h) 0 0 := by
  refine OM.of_body (ls := #[.val (.int x0)]) (plainFor_of_name pn_4) (fun m => by first | (simp [entryFrame, mkF, argsToLocals, Value.category]; done) | rfl) ?_
  intro p e s m below meth c C
  refine OG.ow (OG.iloadN C d1_0 rfl (pc' := 1) rfl) ?_
  refine OG.ow (OG.iconst C d1_1 (z := (1 : Int32)) rfl (pc' := 2) rfl) ?_
  refine OG.ow (OG.iand C d1_2 (pc' := 3) rfl) ?_
  refine OG.ow (OG.ite (α := Int32) (P := (x0 &&& (1 : Int32)) = (0 : Int32)) (f := fun v => (mkF m 19 #[.val (.int x0)] [(.int v)])) (x := (48 : Int32)) (y := ((x0.toUInt32 >>> ((1 : Int32) &&& 31).toUInt32).toInt32 &&& (255 : Int32)).toUInt32.toUInt16.toUInt32.toInt32) (fun hc => ?_) (fun hc => ?_)) ?_
  · refine OG.trans (OG.ifNo C d1_3 ((if0 _ _).trans (teq hc).2) (pc' := 6) rfl) ?_
    refine OG.trans (OG.bipush C d1_6 (z := (48 : Int32)) (by decide) (pc' := 8) rfl) ?_
    refine OG.trans (OG.goto C d1_8 (by decide) (pc' := 19) (by decide)) ?_
    exact OG.refl
  · refine OG.trans (OG.ifYes C d1_3 ((if0 _ _).trans (feq hc).2) (by decide) (pc' := 11) (by decide)) ?_
    refine OG.trans (OG.iloadN C d1_11 rfl (pc' := 12) rfl) ?_
    refine OG.trans (OG.iconst C d1_12 (z := (1 : Int32)) rfl (pc' := 13) rfl) ?_
    refine OG.trans (OG.iushr C d1_13 (pc' := 14) rfl) ?_
    refine OG.trans (OG.sipush C d1_14 (z := (255 : Int32)) (by decide) (pc' := 17) rfl) ?_
    refine OG.trans (OG.iand C d1_17 (pc' := 18) rfl) ?_
    refine OG.trans (OG.i2c C d1_18 (pc' := 19) rfl) ?_
    exact OG.refl
  refine OW.retN (t := .char) C (by simp) d1_19 (by decide) (by decide) ?_
  refine ⟨congrArg (fun z => some (Value.int (nar .char z))) ?_, rfl⟩
  show _ = F1 x0
  rfl
theorem own_sr {a0 : Array Value} {Z : State} {h : Heap} {a b : Addr} {ty : FieldType} {vs : List Value} (E : Exa Z h a "com/example/kartoteka/kartoteka/model/StoredRecord") (hw : HW a0 Z) (A : OA Z h b ty vs) : a ≠ b := by
  obtain ⟨c, A, -⟩ := A
  exact ne_arr E (w6 hw) A
theorem own_64 {vs : List Value} {k : Int32} (h : vs.length = 64) (q : 0 ≤ k.toInt ∧ k.toInt < 64) : 0 ≤ k.toInt ∧ k.toInt < vs.length := by rw [h]; exact q
theorem own_z {Z : State} {h : Heap} {a : Addr} (A : OA Z h a .int [(.int (0 : Int32)), (.int (0 : Int32)), (.int (0 : Int32)), (.int (0 : Int32)), (.int (0 : Int32)), (.int (0 : Int32)), (.int (0 : Int32)), (.int (0 : Int32)), (.int (0 : Int32)), (.int (0 : Int32)), (.int (0 : Int32)), (.int (0 : Int32)), (.int (0 : Int32)), (.int (0 : Int32)), (.int (0 : Int32)), (.int (0 : Int32)), (.int (0 : Int32)), (.int (0 : Int32)), (.int (0 : Int32)), (.int (0 : Int32)), (.int (0 : Int32)), (.int (0 : Int32)), (.int (0 : Int32)), (.int (0 : Int32)), (.int (0 : Int32)), (.int (0 : Int32)), (.int (0 : Int32)), (.int (0 : Int32)), (.int (0 : Int32)), (.int (0 : Int32)), (.int (0 : Int32)), (.int (0 : Int32)), (.int (0 : Int32)), (.int (0 : Int32)), (.int (0 : Int32)), (.int (0 : Int32)), (.int (0 : Int32)), (.int (0 : Int32)), (.int (0 : Int32)), (.int (0 : Int32)), (.int (0 : Int32)), (.int (0 : Int32)), (.int (0 : Int32)), (.int (0 : Int32)), (.int (0 : Int32)), (.int (0 : Int32)), (.int (0 : Int32)), (.int (0 : Int32)), (.int (0 : Int32)), (.int (0 : Int32)), (.int (0 : Int32)), (.int (0 : Int32)), (.int (0 : Int32)), (.int (0 : Int32)), (.int (0 : Int32)), (.int (0 : Int32)), (.int (0 : Int32)), (.int (0 : Int32)), (.int (0 : Int32)), (.int (0 : Int32)), (.int (0 : Int32)), (.int (0 : Int32)), (.int (0 : Int32)), (.int (0 : Int32))]) : OA Z h a .int (List.replicate 64 (Value.int (0 : Int32))) := A
theorem d2_0 : decode prog_73_method_1_code 0 = .ok (.aload_n 0, 1) := by decide +kernel
theorem d2_1 : decode prog_73_method_1_code 1 = .ok (.invokespecial 3, 3) := by decide +kernel
theorem d2_4 : decode prog_73_method_1_code 4 = .ok (.aload_n 0, 1) := by decide +kernel
theorem d2_5 : decode prog_73_method_1_code 5 = .ok (.bipush 64, 2) := by decide +kernel
theorem d2_7 : decode prog_73_method_1_code 7 = .ok (.newarray .int, 2) := by decide +kernel
theorem d2_9 : decode prog_73_method_1_code 9 = .ok (.putfield 11, 3) := by decide +kernel
theorem d2_12 : decode prog_73_method_1_code 12 = .ok (.aload_n 0, 1) := by decide +kernel
theorem d2_13 : decode prog_73_method_1_code 13 = .ok (.bipush 64, 2) := by decide +kernel
theorem d2_15 : decode prog_73_method_1_code 15 = .ok (.newarray .int, 2) := by decide +kernel
theorem d2_17 : decode prog_73_method_1_code 17 = .ok (.putfield 15, 3) := by decide +kernel
theorem d2_20 : decode prog_73_method_1_code 20 = .ok (.aload_n 0, 1) := by decide +kernel
theorem d2_21 : decode prog_73_method_1_code 21 = .ok (.bipush 64, 2) := by decide +kernel
theorem d2_23 : decode prog_73_method_1_code 23 = .ok (.newarray .int, 2) := by decide +kernel
theorem d2_25 : decode prog_73_method_1_code 25 = .ok (.putfield 18, 3) := by decide +kernel
theorem d2_28 : decode prog_73_method_1_code 28 = .ok (.aload_n 0, 1) := by decide +kernel
theorem d2_29 : decode prog_73_method_1_code 29 = .ok (.iload_n 1, 1) := by decide +kernel
theorem d2_30 : decode prog_73_method_1_code 30 = .ok (.newarray .byte, 2) := by decide +kernel
theorem d2_32 : decode prog_73_method_1_code 32 = .ok (.putfield 21, 3) := by decide +kernel
theorem d2_35 : decode prog_73_method_1_code 35 = .ok (.return_, 1) := by decide +kernel
set_option maxRecDepth 65536 in
set_option maxHeartbeats 40000000 in
theorem b2 {l : Launch} {Z : State} {a0 : Array Value} (hw : HW a0 Z) (x0 : Addr) {n0 : Nat} {h : Heap} (Z0 : n0 ≤ h.size) (g0 : n0 ≤ x0) (E0 : Exa Z h x0 "com/example/kartoteka/kartoteka/model/StoredRecord") (F_bytes : Fld Z h x0 "com/example/kartoteka/kartoteka/model/StoredRecord" "bytes" "[B" .null) (F_fields : Fld Z h x0 "com/example/kartoteka/kartoteka/model/StoredRecord" "fields" "I" (.int (0 : Int32))) (F_tags : Fld Z h x0 "com/example/kartoteka/kartoteka/model/StoredRecord" "tags" "[I" .null) (F_starts : Fld Z h x0 "com/example/kartoteka/kartoteka/model/StoredRecord" "starts" "[I" .null) (F_lengths : Fld Z h x0 "com/example/kartoteka/kartoteka/model/StoredRecord" "lengths" "[I" .null) : OM l Z (⟨"com/example/kartoteka/kartoteka/model/StoredRecord", "<init>", "(I)V"⟩ : MethodName) prog_73_method_1_code 2 none ⟨1, 4, 208, 12⟩ n0 h #[(.ref x0), (.int (16 : Int32))] (fun v h' => v = none ∧ Keep h h' [x0] ∧ ∃ bt tg sr ln : Addr, (h.size ≤ bt ∧ h.size ≤ tg ∧ h.size ≤ sr ∧ h.size ≤ ln) ∧ (tg ≠ sr ∧ tg ≠ ln ∧ sr ≠ ln ∧ tg ≠ bt ∧ sr ≠ bt ∧ ln ≠ bt) ∧ (Fld Z h' x0 "com/example/kartoteka/kartoteka/model/StoredRecord" "bytes" "[B" (.ref bt) ∧ Fld Z h' x0 "com/example/kartoteka/kartoteka/model/StoredRecord" "fields" "I" (.int (0 : Int32)) ∧ Fld Z h' x0 "com/example/kartoteka/kartoteka/model/StoredRecord" "tags" "[I" (.ref tg) ∧ Fld Z h' x0 "com/example/kartoteka/kartoteka/model/StoredRecord" "starts" "[I" (.ref sr) ∧ Fld Z h' x0 "com/example/kartoteka/kartoteka/model/StoredRecord" "lengths" "[I" (.ref ln)) ∧ OA Z h' bt .byte [(.int (0 : Int32)), (.int (0 : Int32)), (.int (0 : Int32)), (.int (0 : Int32)), (.int (0 : Int32)), (.int (0 : Int32)), (.int (0 : Int32)), (.int (0 : Int32)), (.int (0 : Int32)), (.int (0 : Int32)), (.int (0 : Int32)), (.int (0 : Int32)), (.int (0 : Int32)), (.int (0 : Int32)), (.int (0 : Int32)), (.int (0 : Int32))] ∧ OA Z h' tg .int (List.replicate 64 (Value.int (0 : Int32))) ∧ OA Z h' sr .int (List.replicate 64 (Value.int (0 : Int32))) ∧ OA Z h' ln .int (List.replicate 64 (Value.int (0 : Int32)))) 4 208 := by
  refine OM.of_body (ls := #[.val (.ref x0), .val (.int (16 : Int32))]) (plainFor_of_name pn_5) (fun m => by first | (simp [entryFrame, mkF, argsToLocals, Value.category]; done) | rfl) ?_
  intro p e s m below meth c C
  refine OG.ow (OG.aloadN C d2_0 rfl rfl (pc' := 1) rfl) ?_
  refine OG.ow (OG.initO C (w11 hw) (w12 hw) (w13 hw) d2_1 rfl (by decide) (W := 0) rfl (by decide) (pc' := 4) rfl) ?_
  refine OG.ow (OG.aloadN C d2_4 rfl rfl (pc' := 5) rfl) ?_
  refine OG.ow (OG.bipush C d2_5 (z := (64 : Int32)) (by decide) (pc' := 7) rfl) ?_
  refine OW.newP C (ty := .int) rfl (w14 hw) (by decide) (cap := 64) (by decide) (by decide) d2_7 (by decide) (by decide) (pc' := 9) rfl ?_
  intro a1 h2 ga1 Eh2 Aa1
  have G3 := (Fld.ext Eh2 F_tags)
  have G4 := (Exa.ext Eh2 E0)
  refine OW.putF C (host := "") (Or.inl (w15 hw)) Via.refl G3 G4 (Or.inl (w16 hw)) (w6 hw) (ty := (.array .int)) (by decide) rfl rfl g0 d2_9 (pc' := 12) rfl ?_
  intro h5 Wh5
  have G6 := Fld.same Wh5 G3
  refine OG.ow (OG.aloadN C d2_12 rfl rfl (pc' := 13) rfl) ?_
  refine OG.ow (OG.bipush C d2_13 (z := (64 : Int32)) (by decide) (pc' := 15) rfl) ?_
  refine OW.newP C (ty := .int) rfl (w14 hw) (by decide) (cap := 64) (by decide) (by decide) d2_15 (by decide) (by decide) (pc' := 17) rfl ?_
  intro a7 h8 ga7 Eh8 Aa7
  have G9 := (Fld.ext Eh8 (Fld.other Wh5 (Fld.ext Eh2 F_starts) (Or.inr (slot_ne (Or.inl (w18 hw)) (Or.inl (w16 hw)) (by decide) (t := (.array .int)) (t' := (.array .int)) (by decide) (by decide)))))
  have G10 := (Exa.ext Eh8 (Exa.wr Wh5 G4))
  refine OW.putF C (host := "") (Or.inl (w17 hw)) Via.refl G9 G10 (Or.inl (w18 hw)) (w6 hw) (ty := (.array .int)) (by decide) rfl rfl g0 d2_17 (pc' := 20) rfl ?_
  intro h11 Wh11
  have G12 := Fld.same Wh11 G9
  refine OG.ow (OG.aloadN C d2_20 rfl rfl (pc' := 21) rfl) ?_
  refine OG.ow (OG.bipush C d2_21 (z := (64 : Int32)) (by decide) (pc' := 23) rfl) ?_
  refine OW.newP C (ty := .int) rfl (w14 hw) (by decide) (cap := 64) (by decide) (by decide) d2_23 (by decide) (by decide) (pc' := 25) rfl ?_
  intro a13 h14 ga13 Eh14 Aa13
  have G15 := (Fld.ext Eh14 (Fld.other Wh11 (Fld.ext Eh8 (Fld.other Wh5 (Fld.ext Eh2 F_lengths) (Or.inr (slot_ne (Or.inl (w20 hw)) (Or.inl (w16 hw)) (by decide) (t := (.array .int)) (t' := (.array .int)) (by decide) (by decide))))) (Or.inr (slot_ne (Or.inl (w20 hw)) (Or.inl (w18 hw)) (by decide) (t := (.array .int)) (t' := (.array .int)) (by decide) (by decide)))))
  have G16 := (Exa.ext Eh14 (Exa.wr Wh11 G10))
  refine OW.putF C (host := "") (Or.inl (w19 hw)) Via.refl G15 G16 (Or.inl (w20 hw)) (w6 hw) (ty := (.array .int)) (by decide) rfl rfl g0 d2_25 (pc' := 28) rfl ?_
  intro h17 Wh17
  have G18 := Fld.same Wh17 G15
  refine OG.ow (OG.aloadN C d2_28 rfl rfl (pc' := 29) rfl) ?_
  refine OG.ow (OG.iloadN C d2_29 rfl (pc' := 30) rfl) ?_
  refine OW.newP C (ty := .byte) rfl (w21 hw) (by decide) (cap := 16) (by decide) (by decide) d2_30 (by decide) (by decide) (pc' := 32) rfl ?_
  intro a19 h20 ga19 Eh20 Aa19
  have G21 := (Fld.ext Eh20 (Fld.other Wh17 (Fld.ext Eh14 (Fld.other Wh11 (Fld.ext Eh8 (Fld.other Wh5 (Fld.ext Eh2 F_bytes) (Or.inr (slot_ne (Or.inl (w23 hw)) (Or.inl (w16 hw)) (by decide) (t := (.array .byte)) (t' := (.array .int)) (by decide) (by decide))))) (Or.inr (slot_ne (Or.inl (w23 hw)) (Or.inl (w18 hw)) (by decide) (t := (.array .byte)) (t' := (.array .int)) (by decide) (by decide))))) (Or.inr (slot_ne (Or.inl (w23 hw)) (Or.inl (w20 hw)) (by decide) (t := (.array .byte)) (t' := (.array .int)) (by decide) (by decide)))))
  have G22 := (Exa.ext Eh20 (Exa.wr Wh17 G16))
  refine OW.putF C (host := "") (Or.inl (w22 hw)) Via.refl G21 G22 (Or.inl (w23 hw)) (w6 hw) (ty := (.array .byte)) (by decide) rfl rfl g0 d2_32 (pc' := 35) rfl ?_
  intro h23 Wh23
  have G24 := Fld.same Wh23 G21
  refine OW.retV C d2_35 (by decide) (by decide) ?_
  have G25 := (Fld.other Wh23 (Fld.ext Eh20 (Fld.other Wh17 (Fld.ext Eh14 (Fld.other Wh11 (Fld.ext Eh8 (Fld.other Wh5 (Fld.ext Eh2 F_fields) (Or.inr (slot_ne (Or.inl (w35 hw)) (Or.inl (w16 hw)) (by decide) (t := .int) (t' := (.array .int)) (by decide) (by decide))))) (Or.inr (slot_ne (Or.inl (w35 hw)) (Or.inl (w18 hw)) (by decide) (t := .int) (t' := (.array .int)) (by decide) (by decide))))) (Or.inr (slot_ne (Or.inl (w35 hw)) (Or.inl (w20 hw)) (by decide) (t := .int) (t' := (.array .int)) (by decide) (by decide))))) (Or.inr (slot_ne (Or.inl (w35 hw)) (Or.inl (w23 hw)) (by decide) (t := .int) (t' := (.array .byte)) (by decide) (by decide))))
  have G26 := (Fld.other Wh23 (Fld.ext Eh20 (Fld.other Wh17 (Fld.ext Eh14 (Fld.other Wh11 (Fld.ext Eh8 G6) (Or.inr (slot_ne (Or.inl (w16 hw)) (Or.inl (w18 hw)) (by decide) (t := (.array .int)) (t' := (.array .int)) (by decide) (by decide))))) (Or.inr (slot_ne (Or.inl (w16 hw)) (Or.inl (w20 hw)) (by decide) (t := (.array .int)) (t' := (.array .int)) (by decide) (by decide))))) (Or.inr (slot_ne (Or.inl (w16 hw)) (Or.inl (w23 hw)) (by decide) (t := (.array .int)) (t' := (.array .byte)) (by decide) (by decide))))
  have G27 := (Fld.other Wh23 (Fld.ext Eh20 (Fld.other Wh17 (Fld.ext Eh14 G12) (Or.inr (slot_ne (Or.inl (w18 hw)) (Or.inl (w20 hw)) (by decide) (t := (.array .int)) (t' := (.array .int)) (by decide) (by decide))))) (Or.inr (slot_ne (Or.inl (w18 hw)) (Or.inl (w23 hw)) (by decide) (t := (.array .int)) (t' := (.array .byte)) (by decide) (by decide))))
  have G28 := (Fld.other Wh23 (Fld.ext Eh20 G18) (Or.inr (slot_ne (Or.inl (w20 hw)) (Or.inl (w23 hw)) (by decide) (t := (.array .int)) (t' := (.array .byte)) (by decide) (by decide))))
  have G29 := (OA.other ((OA.other ((OA.other ((OA.other (show OA Z h2 a1 .int [(.int (0 : Int32)), (.int (0 : Int32)), (.int (0 : Int32)), (.int (0 : Int32)), (.int (0 : Int32)), (.int (0 : Int32)), (.int (0 : Int32)), (.int (0 : Int32)), (.int (0 : Int32)), (.int (0 : Int32)), (.int (0 : Int32)), (.int (0 : Int32)), (.int (0 : Int32)), (.int (0 : Int32)), (.int (0 : Int32)), (.int (0 : Int32)), (.int (0 : Int32)), (.int (0 : Int32)), (.int (0 : Int32)), (.int (0 : Int32)), (.int (0 : Int32)), (.int (0 : Int32)), (.int (0 : Int32)), (.int (0 : Int32)), (.int (0 : Int32)), (.int (0 : Int32)), (.int (0 : Int32)), (.int (0 : Int32)), (.int (0 : Int32)), (.int (0 : Int32)), (.int (0 : Int32)), (.int (0 : Int32)), (.int (0 : Int32)), (.int (0 : Int32)), (.int (0 : Int32)), (.int (0 : Int32)), (.int (0 : Int32)), (.int (0 : Int32)), (.int (0 : Int32)), (.int (0 : Int32)), (.int (0 : Int32)), (.int (0 : Int32)), (.int (0 : Int32)), (.int (0 : Int32)), (.int (0 : Int32)), (.int (0 : Int32)), (.int (0 : Int32)), (.int (0 : Int32)), (.int (0 : Int32)), (.int (0 : Int32)), (.int (0 : Int32)), (.int (0 : Int32)), (.int (0 : Int32)), (.int (0 : Int32)), (.int (0 : Int32)), (.int (0 : Int32)), (.int (0 : Int32)), (.int (0 : Int32)), (.int (0 : Int32)), (.int (0 : Int32)), (.int (0 : Int32)), (.int (0 : Int32)), (.int (0 : Int32)), (.int (0 : Int32))] from Aa1) Wh5 (Ne.symm (Nat.ne_of_lt (Nat.lt_of_lt_of_le (Nat.lt_of_lt_of_le (E0).lt (Nat.le_refl _)) (Nat.le_of_eq ga1))))).ext Eh8) Wh11 (Ne.symm (Nat.ne_of_lt (Nat.lt_of_lt_of_le (Nat.lt_of_lt_of_le (E0).lt (Nat.le_refl _)) (Nat.le_of_eq ga1))))).ext Eh14) Wh17 (Ne.symm (Nat.ne_of_lt (Nat.lt_of_lt_of_le (Nat.lt_of_lt_of_le (E0).lt (Nat.le_refl _)) (Nat.le_of_eq ga1))))).ext Eh20) Wh23 (Ne.symm (Nat.ne_of_lt (Nat.lt_of_lt_of_le (Nat.lt_of_lt_of_le (E0).lt (Nat.le_refl _)) (Nat.le_of_eq ga1)))))
  have G30 := (OA.other ((OA.other ((OA.other (show OA Z h8 a7 .int [(.int (0 : Int32)), (.int (0 : Int32)), (.int (0 : Int32)), (.int (0 : Int32)), (.int (0 : Int32)), (.int (0 : Int32)), (.int (0 : Int32)), (.int (0 : Int32)), (.int (0 : Int32)), (.int (0 : Int32)), (.int (0 : Int32)), (.int (0 : Int32)), (.int (0 : Int32)), (.int (0 : Int32)), (.int (0 : Int32)), (.int (0 : Int32)), (.int (0 : Int32)), (.int (0 : Int32)), (.int (0 : Int32)), (.int (0 : Int32)), (.int (0 : Int32)), (.int (0 : Int32)), (.int (0 : Int32)), (.int (0 : Int32)), (.int (0 : Int32)), (.int (0 : Int32)), (.int (0 : Int32)), (.int (0 : Int32)), (.int (0 : Int32)), (.int (0 : Int32)), (.int (0 : Int32)), (.int (0 : Int32)), (.int (0 : Int32)), (.int (0 : Int32)), (.int (0 : Int32)), (.int (0 : Int32)), (.int (0 : Int32)), (.int (0 : Int32)), (.int (0 : Int32)), (.int (0 : Int32)), (.int (0 : Int32)), (.int (0 : Int32)), (.int (0 : Int32)), (.int (0 : Int32)), (.int (0 : Int32)), (.int (0 : Int32)), (.int (0 : Int32)), (.int (0 : Int32)), (.int (0 : Int32)), (.int (0 : Int32)), (.int (0 : Int32)), (.int (0 : Int32)), (.int (0 : Int32)), (.int (0 : Int32)), (.int (0 : Int32)), (.int (0 : Int32)), (.int (0 : Int32)), (.int (0 : Int32)), (.int (0 : Int32)), (.int (0 : Int32)), (.int (0 : Int32)), (.int (0 : Int32)), (.int (0 : Int32)), (.int (0 : Int32))] from Aa7) Wh11 (Ne.symm (Nat.ne_of_lt (Nat.lt_of_lt_of_le (Nat.lt_of_lt_of_le (E0).lt (Nat.le_trans (Nat.le_trans (Nat.le_refl _) Eh2.1) (Nat.le_of_eq Wh5.size.symm))) (Nat.le_of_eq ga7))))).ext Eh14) Wh17 (Ne.symm (Nat.ne_of_lt (Nat.lt_of_lt_of_le (Nat.lt_of_lt_of_le (E0).lt (Nat.le_trans (Nat.le_trans (Nat.le_refl _) Eh2.1) (Nat.le_of_eq Wh5.size.symm))) (Nat.le_of_eq ga7))))).ext Eh20) Wh23 (Ne.symm (Nat.ne_of_lt (Nat.lt_of_lt_of_le (Nat.lt_of_lt_of_le (E0).lt (Nat.le_trans (Nat.le_trans (Nat.le_refl _) Eh2.1) (Nat.le_of_eq Wh5.size.symm))) (Nat.le_of_eq ga7)))))
  have G31 := (OA.other ((OA.other (show OA Z h14 a13 .int [(.int (0 : Int32)), (.int (0 : Int32)), (.int (0 : Int32)), (.int (0 : Int32)), (.int (0 : Int32)), (.int (0 : Int32)), (.int (0 : Int32)), (.int (0 : Int32)), (.int (0 : Int32)), (.int (0 : Int32)), (.int (0 : Int32)), (.int (0 : Int32)), (.int (0 : Int32)), (.int (0 : Int32)), (.int (0 : Int32)), (.int (0 : Int32)), (.int (0 : Int32)), (.int (0 : Int32)), (.int (0 : Int32)), (.int (0 : Int32)), (.int (0 : Int32)), (.int (0 : Int32)), (.int (0 : Int32)), (.int (0 : Int32)), (.int (0 : Int32)), (.int (0 : Int32)), (.int (0 : Int32)), (.int (0 : Int32)), (.int (0 : Int32)), (.int (0 : Int32)), (.int (0 : Int32)), (.int (0 : Int32)), (.int (0 : Int32)), (.int (0 : Int32)), (.int (0 : Int32)), (.int (0 : Int32)), (.int (0 : Int32)), (.int (0 : Int32)), (.int (0 : Int32)), (.int (0 : Int32)), (.int (0 : Int32)), (.int (0 : Int32)), (.int (0 : Int32)), (.int (0 : Int32)), (.int (0 : Int32)), (.int (0 : Int32)), (.int (0 : Int32)), (.int (0 : Int32)), (.int (0 : Int32)), (.int (0 : Int32)), (.int (0 : Int32)), (.int (0 : Int32)), (.int (0 : Int32)), (.int (0 : Int32)), (.int (0 : Int32)), (.int (0 : Int32)), (.int (0 : Int32)), (.int (0 : Int32)), (.int (0 : Int32)), (.int (0 : Int32)), (.int (0 : Int32)), (.int (0 : Int32)), (.int (0 : Int32)), (.int (0 : Int32))] from Aa13) Wh17 (Ne.symm (Nat.ne_of_lt (Nat.lt_of_lt_of_le (Nat.lt_of_lt_of_le (E0).lt (Nat.le_trans (Nat.le_trans (Nat.le_trans (Nat.le_trans (Nat.le_refl _) Eh2.1) (Nat.le_of_eq Wh5.size.symm)) Eh8.1) (Nat.le_of_eq Wh11.size.symm))) (Nat.le_of_eq ga13))))).ext Eh20) Wh23 (Ne.symm (Nat.ne_of_lt (Nat.lt_of_lt_of_le (Nat.lt_of_lt_of_le (E0).lt (Nat.le_trans (Nat.le_trans (Nat.le_trans (Nat.le_trans (Nat.le_refl _) Eh2.1) (Nat.le_of_eq Wh5.size.symm)) Eh8.1) (Nat.le_of_eq Wh11.size.symm))) (Nat.le_of_eq ga13)))))
  have G32 := (OA.other (show OA Z h20 a19 .byte [(.int (0 : Int32)), (.int (0 : Int32)), (.int (0 : Int32)), (.int (0 : Int32)), (.int (0 : Int32)), (.int (0 : Int32)), (.int (0 : Int32)), (.int (0 : Int32)), (.int (0 : Int32)), (.int (0 : Int32)), (.int (0 : Int32)), (.int (0 : Int32)), (.int (0 : Int32)), (.int (0 : Int32)), (.int (0 : Int32)), (.int (0 : Int32))] from Aa19) Wh23 (Ne.symm (Nat.ne_of_lt (Nat.lt_of_lt_of_le (Nat.lt_of_lt_of_le (E0).lt (Nat.le_trans (Nat.le_trans (Nat.le_trans (Nat.le_trans (Nat.le_trans (Nat.le_trans (Nat.le_refl _) Eh2.1) (Nat.le_of_eq Wh5.size.symm)) Eh8.1) (Nat.le_of_eq Wh11.size.symm)) Eh14.1) (Nat.le_of_eq Wh17.size.symm))) (Nat.le_of_eq ga19)))))
  exact ⟨rfl, (((((((((Keep.refl h [x0]).ext Eh2).wr Wh5 (Or.inl (List.mem_of_getElem? (i := 0) rfl))).ext Eh8).wr Wh11 (Or.inl (List.mem_of_getElem? (i := 0) rfl))).ext Eh14).wr Wh17 (Or.inl (List.mem_of_getElem? (i := 0) rfl))).ext Eh20).wr Wh23 (Or.inl (List.mem_of_getElem? (i := 0) rfl))), _, _, _, _, ⟨(Nat.le_trans (Nat.le_trans (Nat.le_trans (Nat.le_trans (Nat.le_trans (Nat.le_trans (Nat.le_trans (Nat.le_refl _) Eh2.1) (Nat.le_of_eq Wh5.size.symm)) Eh8.1) (Nat.le_of_eq Wh11.size.symm)) Eh14.1) (Nat.le_of_eq Wh17.size.symm)) (Nat.le_of_eq ga19)), (Nat.le_trans (Nat.le_refl _) (Nat.le_of_eq ga1)), (Nat.le_trans (Nat.le_trans (Nat.le_trans (Nat.le_refl _) Eh2.1) (Nat.le_of_eq Wh5.size.symm)) (Nat.le_of_eq ga7)), (Nat.le_trans (Nat.le_trans (Nat.le_trans (Nat.le_trans (Nat.le_trans (Nat.le_refl _) Eh2.1) (Nat.le_of_eq Wh5.size.symm)) Eh8.1) (Nat.le_of_eq Wh11.size.symm)) (Nat.le_of_eq ga13))⟩, ⟨(Nat.ne_of_lt (Nat.lt_of_lt_of_le (Nat.lt_of_lt_of_le ((show OA Z h2 a1 .int [(.int (0 : Int32)), (.int (0 : Int32)), (.int (0 : Int32)), (.int (0 : Int32)), (.int (0 : Int32)), (.int (0 : Int32)), (.int (0 : Int32)), (.int (0 : Int32)), (.int (0 : Int32)), (.int (0 : Int32)), (.int (0 : Int32)), (.int (0 : Int32)), (.int (0 : Int32)), (.int (0 : Int32)), (.int (0 : Int32)), (.int (0 : Int32)), (.int (0 : Int32)), (.int (0 : Int32)), (.int (0 : Int32)), (.int (0 : Int32)), (.int (0 : Int32)), (.int (0 : Int32)), (.int (0 : Int32)), (.int (0 : Int32)), (.int (0 : Int32)), (.int (0 : Int32)), (.int (0 : Int32)), (.int (0 : Int32)), (.int (0 : Int32)), (.int (0 : Int32)), (.int (0 : Int32)), (.int (0 : Int32)), (.int (0 : Int32)), (.int (0 : Int32)), (.int (0 : Int32)), (.int (0 : Int32)), (.int (0 : Int32)), (.int (0 : Int32)), (.int (0 : Int32)), (.int (0 : Int32)), (.int (0 : Int32)), (.int (0 : Int32)), (.int (0 : Int32)), (.int (0 : Int32)), (.int (0 : Int32)), (.int (0 : Int32)), (.int (0 : Int32)), (.int (0 : Int32)), (.int (0 : Int32)), (.int (0 : Int32)), (.int (0 : Int32)), (.int (0 : Int32)), (.int (0 : Int32)), (.int (0 : Int32)), (.int (0 : Int32)), (.int (0 : Int32)), (.int (0 : Int32)), (.int (0 : Int32)), (.int (0 : Int32)), (.int (0 : Int32)), (.int (0 : Int32)), (.int (0 : Int32)), (.int (0 : Int32)), (.int (0 : Int32))] from Aa1)).lt (Nat.le_trans (Nat.le_refl _) (Nat.le_of_eq Wh5.size.symm))) (Nat.le_of_eq ga7))), (Nat.ne_of_lt (Nat.lt_of_lt_of_le (Nat.lt_of_lt_of_le ((show OA Z h2 a1 .int [(.int (0 : Int32)), (.int (0 : Int32)), (.int (0 : Int32)), (.int (0 : Int32)), (.int (0 : Int32)), (.int (0 : Int32)), (.int (0 : Int32)), (.int (0 : Int32)), (.int (0 : Int32)), (.int (0 : Int32)), (.int (0 : Int32)), (.int (0 : Int32)), (.int (0 : Int32)), (.int (0 : Int32)), (.int (0 : Int32)), (.int (0 : Int32)), (.int (0 : Int32)), (.int (0 : Int32)), (.int (0 : Int32)), (.int (0 : Int32)), (.int (0 : Int32)), (.int (0 : Int32)), (.int (0 : Int32)), (.int (0 : Int32)), (.int (0 : Int32)), (.int (0 : Int32)), (.int (0 : Int32)), (.int (0 : Int32)), (.int (0 : Int32)), (.int (0 : Int32)), (.int (0 : Int32)), (.int (0 : Int32)), (.int (0 : Int32)), (.int (0 : Int32)), (.int (0 : Int32)), (.int (0 : Int32)), (.int (0 : Int32)), (.int (0 : Int32)), (.int (0 : Int32)), (.int (0 : Int32)), (.int (0 : Int32)), (.int (0 : Int32)), (.int (0 : Int32)), (.int (0 : Int32)), (.int (0 : Int32)), (.int (0 : Int32)), (.int (0 : Int32)), (.int (0 : Int32)), (.int (0 : Int32)), (.int (0 : Int32)), (.int (0 : Int32)), (.int (0 : Int32)), (.int (0 : Int32)), (.int (0 : Int32)), (.int (0 : Int32)), (.int (0 : Int32)), (.int (0 : Int32)), (.int (0 : Int32)), (.int (0 : Int32)), (.int (0 : Int32)), (.int (0 : Int32)), (.int (0 : Int32)), (.int (0 : Int32)), (.int (0 : Int32))] from Aa1)).lt (Nat.le_trans (Nat.le_trans (Nat.le_trans (Nat.le_refl _) (Nat.le_of_eq Wh5.size.symm)) Eh8.1) (Nat.le_of_eq Wh11.size.symm))) (Nat.le_of_eq ga13))), (Nat.ne_of_lt (Nat.lt_of_lt_of_le (Nat.lt_of_lt_of_le ((show OA Z h8 a7 .int [(.int (0 : Int32)), (.int (0 : Int32)), (.int (0 : Int32)), (.int (0 : Int32)), (.int (0 : Int32)), (.int (0 : Int32)), (.int (0 : Int32)), (.int (0 : Int32)), (.int (0 : Int32)), (.int (0 : Int32)), (.int (0 : Int32)), (.int (0 : Int32)), (.int (0 : Int32)), (.int (0 : Int32)), (.int (0 : Int32)), (.int (0 : Int32)), (.int (0 : Int32)), (.int (0 : Int32)), (.int (0 : Int32)), (.int (0 : Int32)), (.int (0 : Int32)), (.int (0 : Int32)), (.int (0 : Int32)), (.int (0 : Int32)), (.int (0 : Int32)), (.int (0 : Int32)), (.int (0 : Int32)), (.int (0 : Int32)), (.int (0 : Int32)), (.int (0 : Int32)), (.int (0 : Int32)), (.int (0 : Int32)), (.int (0 : Int32)), (.int (0 : Int32)), (.int (0 : Int32)), (.int (0 : Int32)), (.int (0 : Int32)), (.int (0 : Int32)), (.int (0 : Int32)), (.int (0 : Int32)), (.int (0 : Int32)), (.int (0 : Int32)), (.int (0 : Int32)), (.int (0 : Int32)), (.int (0 : Int32)), (.int (0 : Int32)), (.int (0 : Int32)), (.int (0 : Int32)), (.int (0 : Int32)), (.int (0 : Int32)), (.int (0 : Int32)), (.int (0 : Int32)), (.int (0 : Int32)), (.int (0 : Int32)), (.int (0 : Int32)), (.int (0 : Int32)), (.int (0 : Int32)), (.int (0 : Int32)), (.int (0 : Int32)), (.int (0 : Int32)), (.int (0 : Int32)), (.int (0 : Int32)), (.int (0 : Int32)), (.int (0 : Int32))] from Aa7)).lt (Nat.le_trans (Nat.le_refl _) (Nat.le_of_eq Wh11.size.symm))) (Nat.le_of_eq ga13))), (Nat.ne_of_lt (Nat.lt_of_lt_of_le (Nat.lt_of_lt_of_le ((show OA Z h2 a1 .int [(.int (0 : Int32)), (.int (0 : Int32)), (.int (0 : Int32)), (.int (0 : Int32)), (.int (0 : Int32)), (.int (0 : Int32)), (.int (0 : Int32)), (.int (0 : Int32)), (.int (0 : Int32)), (.int (0 : Int32)), (.int (0 : Int32)), (.int (0 : Int32)), (.int (0 : Int32)), (.int (0 : Int32)), (.int (0 : Int32)), (.int (0 : Int32)), (.int (0 : Int32)), (.int (0 : Int32)), (.int (0 : Int32)), (.int (0 : Int32)), (.int (0 : Int32)), (.int (0 : Int32)), (.int (0 : Int32)), (.int (0 : Int32)), (.int (0 : Int32)), (.int (0 : Int32)), (.int (0 : Int32)), (.int (0 : Int32)), (.int (0 : Int32)), (.int (0 : Int32)), (.int (0 : Int32)), (.int (0 : Int32)), (.int (0 : Int32)), (.int (0 : Int32)), (.int (0 : Int32)), (.int (0 : Int32)), (.int (0 : Int32)), (.int (0 : Int32)), (.int (0 : Int32)), (.int (0 : Int32)), (.int (0 : Int32)), (.int (0 : Int32)), (.int (0 : Int32)), (.int (0 : Int32)), (.int (0 : Int32)), (.int (0 : Int32)), (.int (0 : Int32)), (.int (0 : Int32)), (.int (0 : Int32)), (.int (0 : Int32)), (.int (0 : Int32)), (.int (0 : Int32)), (.int (0 : Int32)), (.int (0 : Int32)), (.int (0 : Int32)), (.int (0 : Int32)), (.int (0 : Int32)), (.int (0 : Int32)), (.int (0 : Int32)), (.int (0 : Int32)), (.int (0 : Int32)), (.int (0 : Int32)), (.int (0 : Int32)), (.int (0 : Int32))] from Aa1)).lt (Nat.le_trans (Nat.le_trans (Nat.le_trans (Nat.le_trans (Nat.le_trans (Nat.le_refl _) (Nat.le_of_eq Wh5.size.symm)) Eh8.1) (Nat.le_of_eq Wh11.size.symm)) Eh14.1) (Nat.le_of_eq Wh17.size.symm))) (Nat.le_of_eq ga19))), (Nat.ne_of_lt (Nat.lt_of_lt_of_le (Nat.lt_of_lt_of_le ((show OA Z h8 a7 .int [(.int (0 : Int32)), (.int (0 : Int32)), (.int (0 : Int32)), (.int (0 : Int32)), (.int (0 : Int32)), (.int (0 : Int32)), (.int (0 : Int32)), (.int (0 : Int32)), (.int (0 : Int32)), (.int (0 : Int32)), (.int (0 : Int32)), (.int (0 : Int32)), (.int (0 : Int32)), (.int (0 : Int32)), (.int (0 : Int32)), (.int (0 : Int32)), (.int (0 : Int32)), (.int (0 : Int32)), (.int (0 : Int32)), (.int (0 : Int32)), (.int (0 : Int32)), (.int (0 : Int32)), (.int (0 : Int32)), (.int (0 : Int32)), (.int (0 : Int32)), (.int (0 : Int32)), (.int (0 : Int32)), (.int (0 : Int32)), (.int (0 : Int32)), (.int (0 : Int32)), (.int (0 : Int32)), (.int (0 : Int32)), (.int (0 : Int32)), (.int (0 : Int32)), (.int (0 : Int32)), (.int (0 : Int32)), (.int (0 : Int32)), (.int (0 : Int32)), (.int (0 : Int32)), (.int (0 : Int32)), (.int (0 : Int32)), (.int (0 : Int32)), (.int (0 : Int32)), (.int (0 : Int32)), (.int (0 : Int32)), (.int (0 : Int32)), (.int (0 : Int32)), (.int (0 : Int32)), (.int (0 : Int32)), (.int (0 : Int32)), (.int (0 : Int32)), (.int (0 : Int32)), (.int (0 : Int32)), (.int (0 : Int32)), (.int (0 : Int32)), (.int (0 : Int32)), (.int (0 : Int32)), (.int (0 : Int32)), (.int (0 : Int32)), (.int (0 : Int32)), (.int (0 : Int32)), (.int (0 : Int32)), (.int (0 : Int32)), (.int (0 : Int32))] from Aa7)).lt (Nat.le_trans (Nat.le_trans (Nat.le_trans (Nat.le_refl _) (Nat.le_of_eq Wh11.size.symm)) Eh14.1) (Nat.le_of_eq Wh17.size.symm))) (Nat.le_of_eq ga19))), (Nat.ne_of_lt (Nat.lt_of_lt_of_le (Nat.lt_of_lt_of_le ((show OA Z h14 a13 .int [(.int (0 : Int32)), (.int (0 : Int32)), (.int (0 : Int32)), (.int (0 : Int32)), (.int (0 : Int32)), (.int (0 : Int32)), (.int (0 : Int32)), (.int (0 : Int32)), (.int (0 : Int32)), (.int (0 : Int32)), (.int (0 : Int32)), (.int (0 : Int32)), (.int (0 : Int32)), (.int (0 : Int32)), (.int (0 : Int32)), (.int (0 : Int32)), (.int (0 : Int32)), (.int (0 : Int32)), (.int (0 : Int32)), (.int (0 : Int32)), (.int (0 : Int32)), (.int (0 : Int32)), (.int (0 : Int32)), (.int (0 : Int32)), (.int (0 : Int32)), (.int (0 : Int32)), (.int (0 : Int32)), (.int (0 : Int32)), (.int (0 : Int32)), (.int (0 : Int32)), (.int (0 : Int32)), (.int (0 : Int32)), (.int (0 : Int32)), (.int (0 : Int32)), (.int (0 : Int32)), (.int (0 : Int32)), (.int (0 : Int32)), (.int (0 : Int32)), (.int (0 : Int32)), (.int (0 : Int32)), (.int (0 : Int32)), (.int (0 : Int32)), (.int (0 : Int32)), (.int (0 : Int32)), (.int (0 : Int32)), (.int (0 : Int32)), (.int (0 : Int32)), (.int (0 : Int32)), (.int (0 : Int32)), (.int (0 : Int32)), (.int (0 : Int32)), (.int (0 : Int32)), (.int (0 : Int32)), (.int (0 : Int32)), (.int (0 : Int32)), (.int (0 : Int32)), (.int (0 : Int32)), (.int (0 : Int32)), (.int (0 : Int32)), (.int (0 : Int32)), (.int (0 : Int32)), (.int (0 : Int32)), (.int (0 : Int32)), (.int (0 : Int32))] from Aa13)).lt (Nat.le_trans (Nat.le_refl _) (Nat.le_of_eq Wh17.size.symm))) (Nat.le_of_eq ga19)))⟩, ⟨G24, G25, G26, G27, G28⟩, G32, own_z G29, own_z G30, own_z G31⟩
theorem d4_0 : decode prog_73_method_4_code 0 = .ok (.aload_n 0, 1) := by decide +kernel
theorem d4_1 : decode prog_73_method_4_code 1 = .ok (.getfield 21, 3) := by decide +kernel
theorem d4_4 : decode prog_73_method_4_code 4 = .ok (.arraylength, 1) := by decide +kernel
theorem d4_5 : decode prog_73_method_4_code 5 = .ok (.iload_n 1, 1) := by decide +kernel
theorem d4_6 : decode prog_73_method_4_code 6 = .ok (.if_icmp .ge 25, 3) := by decide +kernel
theorem d4_9 : decode prog_73_method_4_code 9 = .ok (.aload_n 0, 1) := by decide +kernel
theorem d4_10 : decode prog_73_method_4_code 10 = .ok (.aload_n 0, 1) := by decide +kernel
theorem d4_11 : decode prog_73_method_4_code 11 = .ok (.getfield 21, 3) := by decide +kernel
theorem d4_14 : decode prog_73_method_4_code 14 = .ok (.iload_n 1, 1) := by decide +kernel
theorem d4_15 : decode prog_73_method_4_code 15 = .ok (.iconst 2, 1) := by decide +kernel
theorem d4_16 : decode prog_73_method_4_code 16 = .ok (.aload_n 0, 1) := by decide +kernel
theorem d4_17 : decode prog_73_method_4_code 17 = .ok (.getfield 21, 3) := by decide +kernel
theorem d4_20 : decode prog_73_method_4_code 20 = .ok (.arraylength, 1) := by decide +kernel
theorem d4_21 : decode prog_73_method_4_code 21 = .ok (.imul, 1) := by decide +kernel
theorem d4_22 : decode prog_73_method_4_code 22 = .ok (.invokestatic 118, 3) := by decide +kernel
theorem d4_25 : decode prog_73_method_4_code 25 = .ok (.invokestatic 124, 3) := by decide +kernel
theorem d4_28 : decode prog_73_method_4_code 28 = .ok (.putfield 21, 3) := by decide +kernel
theorem d4_31 : decode prog_73_method_4_code 31 = .ok (.aload_n 0, 1) := by decide +kernel
theorem d4_32 : decode prog_73_method_4_code 32 = .ok (.getfield 21, 3) := by decide +kernel
theorem d4_35 : decode prog_73_method_4_code 35 = .ok (.areturn, 1) := by decide +kernel
set_option maxRecDepth 65536 in
set_option maxHeartbeats 40000000 in
theorem b4 {l : Launch} {Z : State} {a0 : Array Value} (hw : HW a0 Z) (x0 : Addr) {bt : Addr} {n0 : Nat} {h : Heap} (Z0 : n0 ≤ h.size) (F0 : Fld Z h x0 "com/example/kartoteka/kartoteka/model/StoredRecord" "bytes" "[B" (.ref bt)) (A0 : OA Z h bt .byte [(.int (0 : Int32)), (.int (0 : Int32)), (.int (0 : Int32)), (.int (0 : Int32)), (.int (0 : Int32)), (.int (0 : Int32)), (.int (0 : Int32)), (.int (0 : Int32)), (.int (0 : Int32)), (.int (0 : Int32)), (.int (0 : Int32)), (.int (0 : Int32)), (.int (0 : Int32)), (.int (0 : Int32)), (.int (0 : Int32)), (.int (0 : Int32))]) : OM l Z (⟨"com/example/kartoteka/kartoteka/model/StoredRecord", "room", "(I)[B"⟩ : MethodName) prog_73_method_4_code 2 (some (.array .byte)) ⟨0, 0, 0, 0⟩ n0 h #[(.ref x0), (.int (16 : Int32))] (fun v h' => v = some (.ref bt) ∧ h' = h) 0 0 := by
  refine OM.of_body (ls := #[.val (.ref x0), .val (.int (16 : Int32))]) (plainFor_of_name pn_5) (fun m => by first | (simp [entryFrame, mkF, argsToLocals, Value.category]; done) | rfl) ?_
  intro p e s m below meth c C
  refine OG.ow (OG.aloadN C d4_0 rfl rfl (pc' := 1) rfl) ?_
  refine OG.ow (OG.getF C (host := "") (Or.inl (w22 hw)) Via.refl F0 d4_1 (pc' := 4) rfl) ?_
  refine OG.ow (OG.arraylength C A0 (z := (16 : Int32)) (by first | rfl | decide) d4_4 (pc' := 5) rfl) ?_
  refine OG.ow (OG.iloadN C d4_5 rfl (pc' := 6) rfl) ?_
  refine OG.ow (OG.icmpYes C d4_6 (flt (by decide : ¬ ((16 : Int32) < (16 : Int32)))).2.1 (by decide) (pc' := 31) (by decide)) ?_
  refine OG.ow (OG.aloadN C d4_31 rfl rfl (pc' := 32) rfl) ?_
  refine OG.ow (OG.getF C (host := "") (Or.inl (w22 hw)) Via.refl F0 d4_32 (pc' := 35) rfl) ?_
  refine OW.retA C rfl rfl d4_35 (by decide) (by decide) ?_
  exact ⟨rfl, rfl⟩
theorem d5_0 : decode prog_73_method_6_code 0 = .ok (.aload_n 0, 1) := by decide +kernel
theorem d5_1 : decode prog_73_method_6_code 1 = .ok (.getfield 99, 3) := by decide +kernel
theorem d5_4 : decode prog_73_method_6_code 4 = .ok (.aload_n 0, 1) := by decide +kernel
theorem d5_5 : decode prog_73_method_6_code 5 = .ok (.getfield 11, 3) := by decide +kernel
theorem d5_8 : decode prog_73_method_6_code 8 = .ok (.arraylength, 1) := by decide +kernel
theorem d5_9 : decode prog_73_method_6_code 9 = .ok (.if_icmp .ne 50, 3) := by decide +kernel
theorem d5_12 : decode prog_73_method_6_code 12 = .ok (.iconst 2, 1) := by decide +kernel
theorem d5_13 : decode prog_73_method_6_code 13 = .ok (.aload_n 0, 1) := by decide +kernel
theorem d5_14 : decode prog_73_method_6_code 14 = .ok (.getfield 99, 3) := by decide +kernel
theorem d5_17 : decode prog_73_method_6_code 17 = .ok (.imul, 1) := by decide +kernel
theorem d5_18 : decode prog_73_method_6_code 18 = .ok (.istore 4, 2) := by decide +kernel
theorem d5_20 : decode prog_73_method_6_code 20 = .ok (.aload_n 0, 1) := by decide +kernel
theorem d5_21 : decode prog_73_method_6_code 21 = .ok (.aload_n 0, 1) := by decide +kernel
theorem d5_22 : decode prog_73_method_6_code 22 = .ok (.getfield 11, 3) := by decide +kernel
theorem d5_25 : decode prog_73_method_6_code 25 = .ok (.iload 4, 2) := by decide +kernel
theorem d5_27 : decode prog_73_method_6_code 27 = .ok (.invokestatic 130, 3) := by decide +kernel
theorem d5_30 : decode prog_73_method_6_code 30 = .ok (.putfield 11, 3) := by decide +kernel
theorem d5_33 : decode prog_73_method_6_code 33 = .ok (.aload_n 0, 1) := by decide +kernel
theorem d5_34 : decode prog_73_method_6_code 34 = .ok (.aload_n 0, 1) := by decide +kernel
theorem d5_35 : decode prog_73_method_6_code 35 = .ok (.getfield 15, 3) := by decide +kernel
theorem d5_38 : decode prog_73_method_6_code 38 = .ok (.iload 4, 2) := by decide +kernel
theorem d5_40 : decode prog_73_method_6_code 40 = .ok (.invokestatic 130, 3) := by decide +kernel
theorem d5_43 : decode prog_73_method_6_code 43 = .ok (.putfield 15, 3) := by decide +kernel
theorem d5_46 : decode prog_73_method_6_code 46 = .ok (.aload_n 0, 1) := by decide +kernel
theorem d5_47 : decode prog_73_method_6_code 47 = .ok (.aload_n 0, 1) := by decide +kernel
theorem d5_48 : decode prog_73_method_6_code 48 = .ok (.getfield 18, 3) := by decide +kernel
theorem d5_51 : decode prog_73_method_6_code 51 = .ok (.iload 4, 2) := by decide +kernel
theorem d5_53 : decode prog_73_method_6_code 53 = .ok (.invokestatic 130, 3) := by decide +kernel
theorem d5_56 : decode prog_73_method_6_code 56 = .ok (.putfield 18, 3) := by decide +kernel
theorem d5_59 : decode prog_73_method_6_code 59 = .ok (.aload_n 0, 1) := by decide +kernel
theorem d5_60 : decode prog_73_method_6_code 60 = .ok (.getfield 11, 3) := by decide +kernel
theorem d5_63 : decode prog_73_method_6_code 63 = .ok (.aload_n 0, 1) := by decide +kernel
theorem d5_64 : decode prog_73_method_6_code 64 = .ok (.getfield 99, 3) := by decide +kernel
theorem d5_67 : decode prog_73_method_6_code 67 = .ok (.iload_n 1, 1) := by decide +kernel
theorem d5_68 : decode prog_73_method_6_code 68 = .ok (.iastore, 1) := by decide +kernel
theorem d5_69 : decode prog_73_method_6_code 69 = .ok (.aload_n 0, 1) := by decide +kernel
theorem d5_70 : decode prog_73_method_6_code 70 = .ok (.getfield 15, 3) := by decide +kernel
theorem d5_73 : decode prog_73_method_6_code 73 = .ok (.aload_n 0, 1) := by decide +kernel
theorem d5_74 : decode prog_73_method_6_code 74 = .ok (.getfield 99, 3) := by decide +kernel
theorem d5_77 : decode prog_73_method_6_code 77 = .ok (.iload_n 2, 1) := by decide +kernel
theorem d5_78 : decode prog_73_method_6_code 78 = .ok (.iastore, 1) := by decide +kernel
theorem d5_79 : decode prog_73_method_6_code 79 = .ok (.aload_n 0, 1) := by decide +kernel
theorem d5_80 : decode prog_73_method_6_code 80 = .ok (.getfield 18, 3) := by decide +kernel
theorem d5_83 : decode prog_73_method_6_code 83 = .ok (.aload_n 0, 1) := by decide +kernel
theorem d5_84 : decode prog_73_method_6_code 84 = .ok (.getfield 99, 3) := by decide +kernel
theorem d5_87 : decode prog_73_method_6_code 87 = .ok (.iload_n 3, 1) := by decide +kernel
theorem d5_88 : decode prog_73_method_6_code 88 = .ok (.iastore, 1) := by decide +kernel
theorem d5_89 : decode prog_73_method_6_code 89 = .ok (.aload_n 0, 1) := by decide +kernel
theorem d5_90 : decode prog_73_method_6_code 90 = .ok (.dup, 1) := by decide +kernel
theorem d5_91 : decode prog_73_method_6_code 91 = .ok (.getfield 99, 3) := by decide +kernel
theorem d5_94 : decode prog_73_method_6_code 94 = .ok (.iconst 1, 1) := by decide +kernel
theorem d5_95 : decode prog_73_method_6_code 95 = .ok (.iadd, 1) := by decide +kernel
theorem d5_96 : decode prog_73_method_6_code 96 = .ok (.putfield 99, 3) := by decide +kernel
theorem d5_99 : decode prog_73_method_6_code 99 = .ok (.return_, 1) := by decide +kernel
set_option maxRecDepth 65536 in
set_option maxHeartbeats 40000000 in
theorem bAd_0 {l : Launch} {Z : State} {a0 : Array Value} (hw : HW a0 Z) (x0 : Addr) (x1 : Int32) (x2 : Int32) (x3 : Int32) {tg sr ln bt : Addr} {ts ss ns : List Value} {n0 : Nat} {h : Heap} (Z0 : n0 ≤ h.size) (g0 : n0 ≤ x0) (g1 : n0 ≤ tg) (g2 : n0 ≤ sr) (g3 : n0 ≤ ln) (E0 : Exa Z h x0 "com/example/kartoteka/kartoteka/model/StoredRecord") (F_fields : Fld Z h x0 "com/example/kartoteka/kartoteka/model/StoredRecord" "fields" "I" (.int (0 : Int32))) (F_tags : Fld Z h x0 "com/example/kartoteka/kartoteka/model/StoredRecord" "tags" "[I" (.ref tg)) (F_starts : Fld Z h x0 "com/example/kartoteka/kartoteka/model/StoredRecord" "starts" "[I" (.ref sr)) (F_lengths : Fld Z h x0 "com/example/kartoteka/kartoteka/model/StoredRecord" "lengths" "[I" (.ref ln)) (F_bytes : Fld Z h x0 "com/example/kartoteka/kartoteka/model/StoredRecord" "bytes" "[B" (.ref bt)) (Atg : OA Z h tg .int ts) (Asr : OA Z h sr .int ss) (Aln : OA Z h ln .int ns) (l1 : ts.length = 64) (l2 : ss.length = 64) (l3 : ns.length = 64) (d1 : tg ≠ sr) (d2 : tg ≠ ln) (d3 : sr ≠ ln) : OM l Z (⟨"com/example/kartoteka/kartoteka/model/StoredRecord", "add", "(III)V"⟩ : MethodName) prog_73_method_6_code 5 none ⟨0, 0, 0, 0⟩ n0 h #[(.ref x0), (.int x1), (.int x2), (.int x3)] (fun v h' => v = none ∧ Keep h h' [x0, tg, sr, ln] ∧ Fld Z h' x0 "com/example/kartoteka/kartoteka/model/StoredRecord" "fields" "I" (.int (1 : Int32)) ∧ Fld Z h' x0 "com/example/kartoteka/kartoteka/model/StoredRecord" "tags" "[I" (.ref tg) ∧ Fld Z h' x0 "com/example/kartoteka/kartoteka/model/StoredRecord" "starts" "[I" (.ref sr) ∧ Fld Z h' x0 "com/example/kartoteka/kartoteka/model/StoredRecord" "lengths" "[I" (.ref ln) ∧ Fld Z h' x0 "com/example/kartoteka/kartoteka/model/StoredRecord" "bytes" "[B" (.ref bt) ∧ OA Z h' tg .int (ts.set 0 (.int x1)) ∧ OA Z h' sr .int (ss.set 0 (.int x2)) ∧ OA Z h' ln .int (ns.set 0 (.int x3))) 0 0 := by
  refine OM.of_body (ls := #[.val (.ref x0), .val (.int x1), .val (.int x2), .val (.int x3), .unset]) (plainFor_of_name pn_5) (fun m => by first | (simp [entryFrame, mkF, argsToLocals, Value.category]; done) | rfl) ?_
  intro p e s m below meth c C
  refine OG.ow (OG.aloadN C d5_0 rfl rfl (pc' := 1) rfl) ?_
  refine OG.ow (OG.getF C (host := "") (Or.inl (w34 hw)) Via.refl F_fields d5_1 (pc' := 4) rfl) ?_
  refine OG.ow (OG.aloadN C d5_4 rfl rfl (pc' := 5) rfl) ?_
  refine OG.ow (OG.getF C (host := "") (Or.inl (w15 hw)) Via.refl F_tags d5_5 (pc' := 8) rfl) ?_
  refine OG.ow (OG.arraylength C Atg (z := (64 : Int32)) (by rw [l1]; rfl) d5_8 (pc' := 9) rfl) ?_
  refine OG.ow (OG.icmpYes C d5_9 (feq (by decide : ¬ ((0 : Int32) = (64 : Int32)))).2 (by decide) (pc' := 59) (by decide)) ?_
  refine OG.ow (OG.aloadN C d5_59 rfl rfl (pc' := 60) rfl) ?_
  refine OG.ow (OG.getF C (host := "") (Or.inl (w15 hw)) Via.refl F_tags d5_60 (pc' := 63) rfl) ?_
  refine OG.ow (OG.aloadN C d5_63 rfl rfl (pc' := 64) rfl) ?_
  refine OG.ow (OG.getF C (host := "") (Or.inl (w34 hw)) Via.refl F_fields d5_64 (pc' := 67) rfl) ?_
  refine OG.ow (OG.iloadN C d5_67 rfl (pc' := 68) rfl) ?_
  refine OW.iastore C Atg (own_64 l1 (by decide)) g1 d5_68 (pc' := 69) rfl ?_
  intro h1 Wh1
  have G2 : OA Z h1 tg .int (ts.set 0 (.int x1)) := OA.same Atg Wh1
  refine OG.ow (OG.aloadN C d5_69 rfl rfl (pc' := 70) rfl) ?_
  have G3 := (Fld.other Wh1 F_starts (Or.inl (own_sr E0 hw Atg)))
  refine OG.ow (OG.getF C (host := "") (Or.inl (w17 hw)) Via.refl G3 d5_70 (pc' := 73) rfl) ?_
  refine OG.ow (OG.aloadN C d5_73 rfl rfl (pc' := 74) rfl) ?_
  have G4 := (Fld.other Wh1 F_fields (Or.inl (own_sr E0 hw Atg)))
  refine OG.ow (OG.getF C (host := "") (Or.inl (w34 hw)) Via.refl G4 d5_74 (pc' := 77) rfl) ?_
  refine OG.ow (OG.iloadN C d5_77 rfl (pc' := 78) rfl) ?_
  have G5 := (OA.other Asr Wh1 (Ne.symm d1))
  refine OW.iastore C G5 (own_64 l2 (by decide)) g2 d5_78 (pc' := 79) rfl ?_
  intro h6 Wh6
  have G7 : OA Z h6 sr .int (ss.set 0 (.int x2)) := OA.same G5 Wh6
  refine OG.ow (OG.aloadN C d5_79 rfl rfl (pc' := 80) rfl) ?_
  have G8 := (Fld.other Wh6 (Fld.other Wh1 F_lengths (Or.inl (own_sr E0 hw Atg))) (Or.inl (own_sr E0 hw Asr)))
  refine OG.ow (OG.getF C (host := "") (Or.inl (w19 hw)) Via.refl G8 d5_80 (pc' := 83) rfl) ?_
  refine OG.ow (OG.aloadN C d5_83 rfl rfl (pc' := 84) rfl) ?_
  have G9 := (Fld.other Wh6 G4 (Or.inl (own_sr E0 hw Asr)))
  refine OG.ow (OG.getF C (host := "") (Or.inl (w34 hw)) Via.refl G9 d5_84 (pc' := 87) rfl) ?_
  refine OG.ow (OG.iloadN C d5_87 rfl (pc' := 88) rfl) ?_
  have G10 := (OA.other (OA.other Aln Wh1 (Ne.symm d2)) Wh6 (Ne.symm d3))
  refine OW.iastore C G10 (own_64 l3 (by decide)) g3 d5_88 (pc' := 89) rfl ?_
  intro h11 Wh11
  have G12 : OA Z h11 ln .int (ns.set 0 (.int x3)) := OA.same G10 Wh11
  refine OG.ow (OG.aloadN C d5_89 rfl rfl (pc' := 90) rfl) ?_
  refine OG.ow (OG.dup C d5_90 rfl (pc' := 91) rfl) ?_
  have G13 := (Fld.other Wh11 G9 (Or.inl (own_sr E0 hw Aln)))
  refine OG.ow (OG.getF C (host := "") (Or.inl (w34 hw)) Via.refl G13 d5_91 (pc' := 94) rfl) ?_
  refine OG.ow (OG.iconst C d5_94 (z := (1 : Int32)) rfl (pc' := 95) rfl) ?_
  refine OG.ow (OG.cast (OG.iadd C d5_95 (pc' := 96) rfl) (own_fr (z := (1 : Int32)) (by decide))) ?_
  have G14 := (Exa.wr Wh11 (Exa.wr Wh6 (Exa.wr Wh1 E0)))
  refine OW.putF C (host := "") (Or.inl (w34 hw)) Via.refl G13 G14 (Or.inl (w35 hw)) (w6 hw) (ty := .int) (by decide) rfl rfl g0 d5_96 (pc' := 99) rfl ?_
  intro h15 Wh15
  have G16 := Fld.same Wh15 G13
  refine OW.retV C d5_99 (by decide) (by decide) ?_
  have G17 := (Fld.other Wh15 (Fld.other Wh11 (Fld.other Wh6 (Fld.other Wh1 F_tags (Or.inl (own_sr E0 hw Atg))) (Or.inl (own_sr E0 hw Asr))) (Or.inl (own_sr E0 hw Aln))) (Or.inr (slot_ne (Or.inl (w16 hw)) (Or.inl (w35 hw)) (by decide) (t := (.array .int)) (t' := .int) (by decide) (by decide))))
  have G18 := (Fld.other Wh15 (Fld.other Wh11 (Fld.other Wh6 G3 (Or.inl (own_sr E0 hw Asr))) (Or.inl (own_sr E0 hw Aln))) (Or.inr (slot_ne (Or.inl (w18 hw)) (Or.inl (w35 hw)) (by decide) (t := (.array .int)) (t' := .int) (by decide) (by decide))))
  have G19 := (Fld.other Wh15 (Fld.other Wh11 G8 (Or.inl (own_sr E0 hw Aln))) (Or.inr (slot_ne (Or.inl (w20 hw)) (Or.inl (w35 hw)) (by decide) (t := (.array .int)) (t' := .int) (by decide) (by decide))))
  have G20 := (Fld.other Wh15 (Fld.other Wh11 (Fld.other Wh6 (Fld.other Wh1 F_bytes (Or.inl (own_sr E0 hw Atg))) (Or.inl (own_sr E0 hw Asr))) (Or.inl (own_sr E0 hw Aln))) (Or.inr (slot_ne (Or.inl (w23 hw)) (Or.inl (w35 hw)) (by decide) (t := (.array .byte)) (t' := .int) (by decide) (by decide))))
  have G21 := (OA.other (OA.other (OA.other G2 Wh6 d1) Wh11 d2) Wh15 (Ne.symm (own_sr E0 hw Atg)))
  have G22 := (OA.other (OA.other G7 Wh11 d3) Wh15 (Ne.symm (own_sr E0 hw Asr)))
  have G23 := (OA.other G12 Wh15 (Ne.symm (own_sr E0 hw Aln)))
  exact ⟨rfl, (((((Keep.refl h [x0, tg, sr, ln]).wr Wh1 (Or.inl (List.mem_of_getElem? (i := 1) rfl))).wr Wh6 (Or.inl (List.mem_of_getElem? (i := 2) rfl))).wr Wh11 (Or.inl (List.mem_of_getElem? (i := 3) rfl))).wr Wh15 (Or.inl (List.mem_of_getElem? (i := 0) rfl))), G16, G17, G18, G19, G20, G21, G22, G23⟩
set_option maxRecDepth 65536 in
set_option maxHeartbeats 40000000 in
theorem bAd_1 {l : Launch} {Z : State} {a0 : Array Value} (hw : HW a0 Z) (x0 : Addr) (x1 : Int32) (x2 : Int32) (x3 : Int32) {tg sr ln bt : Addr} {ts ss ns : List Value} {n0 : Nat} {h : Heap} (Z0 : n0 ≤ h.size) (g0 : n0 ≤ x0) (g1 : n0 ≤ tg) (g2 : n0 ≤ sr) (g3 : n0 ≤ ln) (E0 : Exa Z h x0 "com/example/kartoteka/kartoteka/model/StoredRecord") (F_fields : Fld Z h x0 "com/example/kartoteka/kartoteka/model/StoredRecord" "fields" "I" (.int (1 : Int32))) (F_tags : Fld Z h x0 "com/example/kartoteka/kartoteka/model/StoredRecord" "tags" "[I" (.ref tg)) (F_starts : Fld Z h x0 "com/example/kartoteka/kartoteka/model/StoredRecord" "starts" "[I" (.ref sr)) (F_lengths : Fld Z h x0 "com/example/kartoteka/kartoteka/model/StoredRecord" "lengths" "[I" (.ref ln)) (F_bytes : Fld Z h x0 "com/example/kartoteka/kartoteka/model/StoredRecord" "bytes" "[B" (.ref bt)) (Atg : OA Z h tg .int ts) (Asr : OA Z h sr .int ss) (Aln : OA Z h ln .int ns) (l1 : ts.length = 64) (l2 : ss.length = 64) (l3 : ns.length = 64) (d1 : tg ≠ sr) (d2 : tg ≠ ln) (d3 : sr ≠ ln) : OM l Z (⟨"com/example/kartoteka/kartoteka/model/StoredRecord", "add", "(III)V"⟩ : MethodName) prog_73_method_6_code 5 none ⟨0, 0, 0, 0⟩ n0 h #[(.ref x0), (.int x1), (.int x2), (.int x3)] (fun v h' => v = none ∧ Keep h h' [x0, tg, sr, ln] ∧ Fld Z h' x0 "com/example/kartoteka/kartoteka/model/StoredRecord" "fields" "I" (.int (2 : Int32)) ∧ Fld Z h' x0 "com/example/kartoteka/kartoteka/model/StoredRecord" "tags" "[I" (.ref tg) ∧ Fld Z h' x0 "com/example/kartoteka/kartoteka/model/StoredRecord" "starts" "[I" (.ref sr) ∧ Fld Z h' x0 "com/example/kartoteka/kartoteka/model/StoredRecord" "lengths" "[I" (.ref ln) ∧ Fld Z h' x0 "com/example/kartoteka/kartoteka/model/StoredRecord" "bytes" "[B" (.ref bt) ∧ OA Z h' tg .int (ts.set 1 (.int x1)) ∧ OA Z h' sr .int (ss.set 1 (.int x2)) ∧ OA Z h' ln .int (ns.set 1 (.int x3))) 0 0 := by
  refine OM.of_body (ls := #[.val (.ref x0), .val (.int x1), .val (.int x2), .val (.int x3), .unset]) (plainFor_of_name pn_5) (fun m => by first | (simp [entryFrame, mkF, argsToLocals, Value.category]; done) | rfl) ?_
  intro p e s m below meth c C
  refine OG.ow (OG.aloadN C d5_0 rfl rfl (pc' := 1) rfl) ?_
  refine OG.ow (OG.getF C (host := "") (Or.inl (w34 hw)) Via.refl F_fields d5_1 (pc' := 4) rfl) ?_
  refine OG.ow (OG.aloadN C d5_4 rfl rfl (pc' := 5) rfl) ?_
  refine OG.ow (OG.getF C (host := "") (Or.inl (w15 hw)) Via.refl F_tags d5_5 (pc' := 8) rfl) ?_
  refine OG.ow (OG.arraylength C Atg (z := (64 : Int32)) (by rw [l1]; rfl) d5_8 (pc' := 9) rfl) ?_
  refine OG.ow (OG.icmpYes C d5_9 (feq (by decide : ¬ ((1 : Int32) = (64 : Int32)))).2 (by decide) (pc' := 59) (by decide)) ?_
  refine OG.ow (OG.aloadN C d5_59 rfl rfl (pc' := 60) rfl) ?_
  refine OG.ow (OG.getF C (host := "") (Or.inl (w15 hw)) Via.refl F_tags d5_60 (pc' := 63) rfl) ?_
  refine OG.ow (OG.aloadN C d5_63 rfl rfl (pc' := 64) rfl) ?_
  refine OG.ow (OG.getF C (host := "") (Or.inl (w34 hw)) Via.refl F_fields d5_64 (pc' := 67) rfl) ?_
  refine OG.ow (OG.iloadN C d5_67 rfl (pc' := 68) rfl) ?_
  refine OW.iastore C Atg (own_64 l1 (by decide)) g1 d5_68 (pc' := 69) rfl ?_
  intro h1 Wh1
  have G2 : OA Z h1 tg .int (ts.set 1 (.int x1)) := OA.same Atg Wh1
  refine OG.ow (OG.aloadN C d5_69 rfl rfl (pc' := 70) rfl) ?_
  have G3 := (Fld.other Wh1 F_starts (Or.inl (own_sr E0 hw Atg)))
  refine OG.ow (OG.getF C (host := "") (Or.inl (w17 hw)) Via.refl G3 d5_70 (pc' := 73) rfl) ?_
  refine OG.ow (OG.aloadN C d5_73 rfl rfl (pc' := 74) rfl) ?_
  have G4 := (Fld.other Wh1 F_fields (Or.inl (own_sr E0 hw Atg)))
  refine OG.ow (OG.getF C (host := "") (Or.inl (w34 hw)) Via.refl G4 d5_74 (pc' := 77) rfl) ?_
  refine OG.ow (OG.iloadN C d5_77 rfl (pc' := 78) rfl) ?_
  have G5 := (OA.other Asr Wh1 (Ne.symm d1))
  refine OW.iastore C G5 (own_64 l2 (by decide)) g2 d5_78 (pc' := 79) rfl ?_
  intro h6 Wh6
  have G7 : OA Z h6 sr .int (ss.set 1 (.int x2)) := OA.same G5 Wh6
  refine OG.ow (OG.aloadN C d5_79 rfl rfl (pc' := 80) rfl) ?_
  have G8 := (Fld.other Wh6 (Fld.other Wh1 F_lengths (Or.inl (own_sr E0 hw Atg))) (Or.inl (own_sr E0 hw Asr)))
  refine OG.ow (OG.getF C (host := "") (Or.inl (w19 hw)) Via.refl G8 d5_80 (pc' := 83) rfl) ?_
  refine OG.ow (OG.aloadN C d5_83 rfl rfl (pc' := 84) rfl) ?_
  have G9 := (Fld.other Wh6 G4 (Or.inl (own_sr E0 hw Asr)))
  refine OG.ow (OG.getF C (host := "") (Or.inl (w34 hw)) Via.refl G9 d5_84 (pc' := 87) rfl) ?_
  refine OG.ow (OG.iloadN C d5_87 rfl (pc' := 88) rfl) ?_
  have G10 := (OA.other (OA.other Aln Wh1 (Ne.symm d2)) Wh6 (Ne.symm d3))
  refine OW.iastore C G10 (own_64 l3 (by decide)) g3 d5_88 (pc' := 89) rfl ?_
  intro h11 Wh11
  have G12 : OA Z h11 ln .int (ns.set 1 (.int x3)) := OA.same G10 Wh11
  refine OG.ow (OG.aloadN C d5_89 rfl rfl (pc' := 90) rfl) ?_
  refine OG.ow (OG.dup C d5_90 rfl (pc' := 91) rfl) ?_
  have G13 := (Fld.other Wh11 G9 (Or.inl (own_sr E0 hw Aln)))
  refine OG.ow (OG.getF C (host := "") (Or.inl (w34 hw)) Via.refl G13 d5_91 (pc' := 94) rfl) ?_
  refine OG.ow (OG.iconst C d5_94 (z := (1 : Int32)) rfl (pc' := 95) rfl) ?_
  refine OG.ow (OG.cast (OG.iadd C d5_95 (pc' := 96) rfl) (own_fr (z := (2 : Int32)) (by decide))) ?_
  have G14 := (Exa.wr Wh11 (Exa.wr Wh6 (Exa.wr Wh1 E0)))
  refine OW.putF C (host := "") (Or.inl (w34 hw)) Via.refl G13 G14 (Or.inl (w35 hw)) (w6 hw) (ty := .int) (by decide) rfl rfl g0 d5_96 (pc' := 99) rfl ?_
  intro h15 Wh15
  have G16 := Fld.same Wh15 G13
  refine OW.retV C d5_99 (by decide) (by decide) ?_
  have G17 := (Fld.other Wh15 (Fld.other Wh11 (Fld.other Wh6 (Fld.other Wh1 F_tags (Or.inl (own_sr E0 hw Atg))) (Or.inl (own_sr E0 hw Asr))) (Or.inl (own_sr E0 hw Aln))) (Or.inr (slot_ne (Or.inl (w16 hw)) (Or.inl (w35 hw)) (by decide) (t := (.array .int)) (t' := .int) (by decide) (by decide))))
  have G18 := (Fld.other Wh15 (Fld.other Wh11 (Fld.other Wh6 G3 (Or.inl (own_sr E0 hw Asr))) (Or.inl (own_sr E0 hw Aln))) (Or.inr (slot_ne (Or.inl (w18 hw)) (Or.inl (w35 hw)) (by decide) (t := (.array .int)) (t' := .int) (by decide) (by decide))))
  have G19 := (Fld.other Wh15 (Fld.other Wh11 G8 (Or.inl (own_sr E0 hw Aln))) (Or.inr (slot_ne (Or.inl (w20 hw)) (Or.inl (w35 hw)) (by decide) (t := (.array .int)) (t' := .int) (by decide) (by decide))))
  have G20 := (Fld.other Wh15 (Fld.other Wh11 (Fld.other Wh6 (Fld.other Wh1 F_bytes (Or.inl (own_sr E0 hw Atg))) (Or.inl (own_sr E0 hw Asr))) (Or.inl (own_sr E0 hw Aln))) (Or.inr (slot_ne (Or.inl (w23 hw)) (Or.inl (w35 hw)) (by decide) (t := (.array .byte)) (t' := .int) (by decide) (by decide))))
  have G21 := (OA.other (OA.other (OA.other G2 Wh6 d1) Wh11 d2) Wh15 (Ne.symm (own_sr E0 hw Atg)))
  have G22 := (OA.other (OA.other G7 Wh11 d3) Wh15 (Ne.symm (own_sr E0 hw Asr)))
  have G23 := (OA.other G12 Wh15 (Ne.symm (own_sr E0 hw Aln)))
  exact ⟨rfl, (((((Keep.refl h [x0, tg, sr, ln]).wr Wh1 (Or.inl (List.mem_of_getElem? (i := 1) rfl))).wr Wh6 (Or.inl (List.mem_of_getElem? (i := 2) rfl))).wr Wh11 (Or.inl (List.mem_of_getElem? (i := 3) rfl))).wr Wh15 (Or.inl (List.mem_of_getElem? (i := 0) rfl))), G16, G17, G18, G19, G20, G21, G22, G23⟩
theorem d19_0 : decode prog_73_method_11_code 0 = .ok (.aload_n 0, 1) := by decide +kernel
theorem d19_1 : decode prog_73_method_11_code 1 = .ok (.getfield 11, 3) := by decide +kernel
theorem d19_4 : decode prog_73_method_11_code 4 = .ok (.iload_n 1, 1) := by decide +kernel
theorem d19_5 : decode prog_73_method_11_code 5 = .ok (.iaload, 1) := by decide +kernel
theorem d19_6 : decode prog_73_method_11_code 6 = .ok (.istore_n 2, 1) := by decide +kernel
theorem d19_7 : decode prog_73_method_11_code 7 = .ok (.aload_n 0, 1) := by decide +kernel
theorem d19_8 : decode prog_73_method_11_code 8 = .ok (.getfield 21, 3) := by decide +kernel
theorem d19_11 : decode prog_73_method_11_code 11 = .ok (.iload_n 2, 1) := by decide +kernel
theorem d19_12 : decode prog_73_method_11_code 12 = .ok (.baload, 1) := by decide +kernel
theorem d19_13 : decode prog_73_method_11_code 13 = .ok (.bipush 48, 2) := by decide +kernel
theorem d19_15 : decode prog_73_method_11_code 15 = .ok (.if_icmp .ne 20, 3) := by decide +kernel
theorem d19_18 : decode prog_73_method_11_code 18 = .ok (.aload_n 0, 1) := by decide +kernel
theorem d19_19 : decode prog_73_method_11_code 19 = .ok (.getfield 21, 3) := by decide +kernel
theorem d19_22 : decode prog_73_method_11_code 22 = .ok (.iload_n 2, 1) := by decide +kernel
theorem d19_23 : decode prog_73_method_11_code 23 = .ok (.iconst 1, 1) := by decide +kernel
theorem d19_24 : decode prog_73_method_11_code 24 = .ok (.iadd, 1) := by decide +kernel
theorem d19_25 : decode prog_73_method_11_code 25 = .ok (.baload, 1) := by decide +kernel
theorem d19_26 : decode prog_73_method_11_code 26 = .ok (.bipush 48, 2) := by decide +kernel
theorem d19_28 : decode prog_73_method_11_code 28 = .ok (.if_icmp .ne 7, 3) := by decide +kernel
theorem d19_31 : decode prog_73_method_11_code 31 = .ok (.iconst 1, 1) := by decide +kernel
theorem d19_32 : decode prog_73_method_11_code 32 = .ok (.goto 4, 3) := by decide +kernel
theorem d19_35 : decode prog_73_method_11_code 35 = .ok (.iconst 0, 1) := by decide +kernel
theorem d19_36 : decode prog_73_method_11_code 36 = .ok (.ireturn, 1) := by decide +kernel
set_option maxRecDepth 65536 in
set_option maxHeartbeats 40000000 in
theorem bIC_0 {l : Launch} {Z : State} {a0 : Array Value} (hw : HW a0 Z) (x0 : Addr) {tg bt : Addr} {ts bl : List Value} {ta u0 u1 : Int32} {n0 : Nat} {h : Heap} (Z0 : n0 ≤ h.size) (F_t : Fld Z h x0 "com/example/kartoteka/kartoteka/model/StoredRecord" "tags" "[I" (.ref tg)) (F_b : Fld Z h x0 "com/example/kartoteka/kartoteka/model/StoredRecord" "bytes" "[B" (.ref bt)) (At : OA Z h tg .int ts) (Ab : OA Z h bt .byte bl) (b1 : 0 ≤ (0 : Int32).toInt ∧ (0 : Int32).toInt < ts.length) (e1 : ts[(0 : Int32).toNatClampNeg]? = some (.int ta)) (b2 : 0 ≤ ta.toInt ∧ ta.toInt < bl.length) (e2 : bl[ta.toNatClampNeg]? = some (.int u0)) (b3 : 0 ≤ (ta + (1 : Int32)).toInt ∧ (ta + (1 : Int32)).toInt < bl.length) (e3 : bl[(ta + (1 : Int32)).toNatClampNeg]? = some (.int u1)) : OM l Z (⟨"com/example/kartoteka/kartoteka/model/StoredRecord", "isControl", "(I)Z"⟩ : MethodName) prog_73_method_11_code 3 (some .boolean) ⟨0, 0, 0, 0⟩ n0 h #[(.ref x0), (.int (0 : Int32))] (fun v h' => v = some (.int (if u0 = (48 : Int32) then (if u1 = (48 : Int32) then (1 : Int32) else (0 : Int32)) else (0 : Int32))) ∧ h' = h) 0 0 := by
  refine OM.of_body (ls := #[.val (.ref x0), .val (.int (0 : Int32)), .unset]) (plainFor_of_name pn_5) (fun m => by first | (simp [entryFrame, mkF, argsToLocals, Value.category]; done) | rfl) ?_
  intro p e s m below meth c C
  refine OG.ow (OG.aloadN C d19_0 rfl rfl (pc' := 1) rfl) ?_
  refine OG.ow (OG.getF C (host := "") (Or.inl (w15 hw)) Via.refl F_t d19_1 (pc' := 4) rfl) ?_
  refine OG.ow (OG.iloadN C d19_4 rfl (pc' := 5) rfl) ?_
  refine OG.ow (OG.iaload C At b1 e1 d19_5 (pc' := 6) rfl) ?_
  refine OG.ow (OG.istoreN C d19_6 (ls' := #[.val (.ref x0), .val (.int (0 : Int32)), .val (.int ta)]) rfl (pc' := 7) rfl) ?_
  refine OG.ow (OG.aloadN C d19_7 rfl rfl (pc' := 8) rfl) ?_
  refine OG.ow (OG.getF C (host := "") (Or.inl (w22 hw)) Via.refl F_b d19_8 (pc' := 11) rfl) ?_
  refine OG.ow (OG.iloadN C d19_11 rfl (pc' := 12) rfl) ?_
  refine OG.ow (OG.baload C Ab b2 e2 d19_12 (pc' := 13) rfl) ?_
  refine OG.ow (OG.bipush C d19_13 (z := (48 : Int32)) (by decide) (pc' := 15) rfl) ?_
  refine OG.ow (OG.ite (α := Int32) (P := u0 = (48 : Int32)) (f := fun v => (mkF m 36 #[.val (.ref x0), .val (.int (0 : Int32)), .val (.int ta)] [(.int v)])) (x := (if u1 = (48 : Int32) then (1 : Int32) else (0 : Int32))) (y := (0 : Int32)) (fun hc => ?_) (fun hc => ?_)) ?_
  · refine OG.trans (OG.icmpNo C d19_15 (teq hc).2 (pc' := 18) rfl) ?_
    refine OG.trans (OG.aloadN C d19_18 rfl rfl (pc' := 19) rfl) ?_
    refine OG.trans (OG.getF C (host := "") (Or.inl (w22 hw)) Via.refl F_b d19_19 (pc' := 22) rfl) ?_
    refine OG.trans (OG.iloadN C d19_22 rfl (pc' := 23) rfl) ?_
    refine OG.trans (OG.iconst C d19_23 (z := (1 : Int32)) rfl (pc' := 24) rfl) ?_
    refine OG.trans (OG.iadd C d19_24 (pc' := 25) rfl) ?_
    refine OG.trans (OG.baload C Ab b3 e3 d19_25 (pc' := 26) rfl) ?_
    refine OG.trans (OG.bipush C d19_26 (z := (48 : Int32)) (by decide) (pc' := 28) rfl) ?_
    refine OG.trans (OG.ite (α := Int32) (P := u1 = (48 : Int32)) (f := fun v => (mkF m 36 #[.val (.ref x0), .val (.int (0 : Int32)), .val (.int ta)] [(.int v)])) (x := (1 : Int32)) (y := (0 : Int32)) (fun hc => ?_) (fun hc => ?_)) ?_
    · refine OG.trans (OG.icmpNo C d19_28 (teq hc).2 (pc' := 31) rfl) ?_
      refine OG.trans (OG.iconst C d19_31 (z := (1 : Int32)) rfl (pc' := 32) rfl) ?_
      refine OG.trans (OG.goto C d19_32 (by decide) (pc' := 36) (by decide)) ?_
      exact OG.refl
    · refine OG.trans (OG.icmpYes C d19_28 (feq hc).2 (by decide) (pc' := 35) (by decide)) ?_
      refine OG.trans (OG.iconst C d19_35 (z := (0 : Int32)) rfl (pc' := 36) rfl) ?_
      exact OG.refl
    exact OG.refl
  · refine OG.trans (OG.icmpYes C d19_15 (feq hc).2 (by decide) (pc' := 35) (by decide)) ?_
    refine OG.trans (OG.iconst C d19_35 (z := (0 : Int32)) rfl (pc' := 36) rfl) ?_
    exact OG.refl
  refine OW.retN (t := .boolean) C (by simp) d19_36 (by decide) (by decide) ?_
  refine ⟨congrArg (fun z => some (Value.int z)) ?_, rfl⟩
  show nar .boolean (if u0 = (48 : Int32) then (if u1 = (48 : Int32) then (1 : Int32) else (0 : Int32)) else (0 : Int32)) = (if u0 = (48 : Int32) then (if u1 = (48 : Int32) then (1 : Int32) else (0 : Int32)) else (0 : Int32))
  by_cases q1 : u0 = (48 : Int32) <;> by_cases q2 : u1 = (48 : Int32) <;> simp only [q1, q2, if_true, if_false] <;> decide
set_option maxRecDepth 65536 in
set_option maxHeartbeats 40000000 in
theorem bIC_1 {l : Launch} {Z : State} {a0 : Array Value} (hw : HW a0 Z) (x0 : Addr) {tg bt : Addr} {ts bl : List Value} {ta u0 u1 : Int32} {n0 : Nat} {h : Heap} (Z0 : n0 ≤ h.size) (F_t : Fld Z h x0 "com/example/kartoteka/kartoteka/model/StoredRecord" "tags" "[I" (.ref tg)) (F_b : Fld Z h x0 "com/example/kartoteka/kartoteka/model/StoredRecord" "bytes" "[B" (.ref bt)) (At : OA Z h tg .int ts) (Ab : OA Z h bt .byte bl) (b1 : 0 ≤ (1 : Int32).toInt ∧ (1 : Int32).toInt < ts.length) (e1 : ts[(1 : Int32).toNatClampNeg]? = some (.int ta)) (b2 : 0 ≤ ta.toInt ∧ ta.toInt < bl.length) (e2 : bl[ta.toNatClampNeg]? = some (.int u0)) (b3 : 0 ≤ (ta + (1 : Int32)).toInt ∧ (ta + (1 : Int32)).toInt < bl.length) (e3 : bl[(ta + (1 : Int32)).toNatClampNeg]? = some (.int u1)) : OM l Z (⟨"com/example/kartoteka/kartoteka/model/StoredRecord", "isControl", "(I)Z"⟩ : MethodName) prog_73_method_11_code 3 (some .boolean) ⟨0, 0, 0, 0⟩ n0 h #[(.ref x0), (.int (1 : Int32))] (fun v h' => v = some (.int (if u0 = (48 : Int32) then (if u1 = (48 : Int32) then (1 : Int32) else (0 : Int32)) else (0 : Int32))) ∧ h' = h) 0 0 := by
  refine OM.of_body (ls := #[.val (.ref x0), .val (.int (1 : Int32)), .unset]) (plainFor_of_name pn_5) (fun m => by first | (simp [entryFrame, mkF, argsToLocals, Value.category]; done) | rfl) ?_
  intro p e s m below meth c C
  refine OG.ow (OG.aloadN C d19_0 rfl rfl (pc' := 1) rfl) ?_
  refine OG.ow (OG.getF C (host := "") (Or.inl (w15 hw)) Via.refl F_t d19_1 (pc' := 4) rfl) ?_
  refine OG.ow (OG.iloadN C d19_4 rfl (pc' := 5) rfl) ?_
  refine OG.ow (OG.iaload C At b1 e1 d19_5 (pc' := 6) rfl) ?_
  refine OG.ow (OG.istoreN C d19_6 (ls' := #[.val (.ref x0), .val (.int (1 : Int32)), .val (.int ta)]) rfl (pc' := 7) rfl) ?_
  refine OG.ow (OG.aloadN C d19_7 rfl rfl (pc' := 8) rfl) ?_
  refine OG.ow (OG.getF C (host := "") (Or.inl (w22 hw)) Via.refl F_b d19_8 (pc' := 11) rfl) ?_
  refine OG.ow (OG.iloadN C d19_11 rfl (pc' := 12) rfl) ?_
  refine OG.ow (OG.baload C Ab b2 e2 d19_12 (pc' := 13) rfl) ?_
  refine OG.ow (OG.bipush C d19_13 (z := (48 : Int32)) (by decide) (pc' := 15) rfl) ?_
  refine OG.ow (OG.ite (α := Int32) (P := u0 = (48 : Int32)) (f := fun v => (mkF m 36 #[.val (.ref x0), .val (.int (1 : Int32)), .val (.int ta)] [(.int v)])) (x := (if u1 = (48 : Int32) then (1 : Int32) else (0 : Int32))) (y := (0 : Int32)) (fun hc => ?_) (fun hc => ?_)) ?_
  · refine OG.trans (OG.icmpNo C d19_15 (teq hc).2 (pc' := 18) rfl) ?_
    refine OG.trans (OG.aloadN C d19_18 rfl rfl (pc' := 19) rfl) ?_
    refine OG.trans (OG.getF C (host := "") (Or.inl (w22 hw)) Via.refl F_b d19_19 (pc' := 22) rfl) ?_
    refine OG.trans (OG.iloadN C d19_22 rfl (pc' := 23) rfl) ?_
    refine OG.trans (OG.iconst C d19_23 (z := (1 : Int32)) rfl (pc' := 24) rfl) ?_
    refine OG.trans (OG.iadd C d19_24 (pc' := 25) rfl) ?_
    refine OG.trans (OG.baload C Ab b3 e3 d19_25 (pc' := 26) rfl) ?_
    refine OG.trans (OG.bipush C d19_26 (z := (48 : Int32)) (by decide) (pc' := 28) rfl) ?_
    refine OG.trans (OG.ite (α := Int32) (P := u1 = (48 : Int32)) (f := fun v => (mkF m 36 #[.val (.ref x0), .val (.int (1 : Int32)), .val (.int ta)] [(.int v)])) (x := (1 : Int32)) (y := (0 : Int32)) (fun hc => ?_) (fun hc => ?_)) ?_
    · refine OG.trans (OG.icmpNo C d19_28 (teq hc).2 (pc' := 31) rfl) ?_
      refine OG.trans (OG.iconst C d19_31 (z := (1 : Int32)) rfl (pc' := 32) rfl) ?_
      refine OG.trans (OG.goto C d19_32 (by decide) (pc' := 36) (by decide)) ?_
      exact OG.refl
    · refine OG.trans (OG.icmpYes C d19_28 (feq hc).2 (by decide) (pc' := 35) (by decide)) ?_
      refine OG.trans (OG.iconst C d19_35 (z := (0 : Int32)) rfl (pc' := 36) rfl) ?_
      exact OG.refl
    exact OG.refl
  · refine OG.trans (OG.icmpYes C d19_15 (feq hc).2 (by decide) (pc' := 35) (by decide)) ?_
    refine OG.trans (OG.iconst C d19_35 (z := (0 : Int32)) rfl (pc' := 36) rfl) ?_
    exact OG.refl
  refine OW.retN (t := .boolean) C (by simp) d19_36 (by decide) (by decide) ?_
  refine ⟨congrArg (fun z => some (Value.int z)) ?_, rfl⟩
  show nar .boolean (if u0 = (48 : Int32) then (if u1 = (48 : Int32) then (1 : Int32) else (0 : Int32)) else (0 : Int32)) = (if u0 = (48 : Int32) then (if u1 = (48 : Int32) then (1 : Int32) else (0 : Int32)) else (0 : Int32))
  by_cases q1 : u0 = (48 : Int32) <;> by_cases q2 : u1 = (48 : Int32) <;> simp only [q1, q2, if_true, if_false] <;> decide
theorem d11_0 : decode prog_67_method_9_code 0 = .ok (.aload_n 0, 1) := by decide +kernel
theorem d11_1 : decode prog_67_method_9_code 1 = .ok (.invokeinterface 156 1, 5) := by decide +kernel
theorem d11_6 : decode prog_67_method_9_code 6 = .ok (.iconst 2, 1) := by decide +kernel
theorem d11_7 : decode prog_67_method_9_code 7 = .ok (.if_icmp .lt 31, 3) := by decide +kernel
theorem d11_10 : decode prog_67_method_9_code 10 = .ok (.aload_n 0, 1) := by decide +kernel
theorem d11_11 : decode prog_67_method_9_code 11 = .ok (.iconst 0, 1) := by decide +kernel
theorem d11_12 : decode prog_67_method_9_code 12 = .ok (.invokeinterface 159 2, 5) := by decide +kernel
theorem d11_17 : decode prog_67_method_9_code 17 = .ok (.bipush 48, 2) := by decide +kernel
theorem d11_19 : decode prog_67_method_9_code 19 = .ok (.if_icmp .ne 19, 3) := by decide +kernel
theorem d11_22 : decode prog_67_method_9_code 22 = .ok (.aload_n 0, 1) := by decide +kernel
theorem d11_23 : decode prog_67_method_9_code 23 = .ok (.iconst 1, 1) := by decide +kernel
theorem d11_24 : decode prog_67_method_9_code 24 = .ok (.invokeinterface 159 2, 5) := by decide +kernel
theorem d11_29 : decode prog_67_method_9_code 29 = .ok (.bipush 48, 2) := by decide +kernel
theorem d11_31 : decode prog_67_method_9_code 31 = .ok (.if_icmp .ne 7, 3) := by decide +kernel
theorem d11_34 : decode prog_67_method_9_code 34 = .ok (.iconst 1, 1) := by decide +kernel
theorem d11_35 : decode prog_67_method_9_code 35 = .ok (.goto 4, 3) := by decide +kernel
theorem d11_38 : decode prog_67_method_9_code 38 = .ok (.iconst 0, 1) := by decide +kernel
theorem d11_39 : decode prog_67_method_9_code 39 = .ok (.ireturn, 1) := by decide +kernel
set_option maxRecDepth 65536 in
set_option maxHeartbeats 40000000 in
theorem b11 {l : Launch} {Z : State} {a0 : Array Value} (hw : HW a0 Z) (x0 : Addr) {b0_ b1_ b2_ : Int32} {q : Addr} {cs : Int32} {fm : Value} {n0 : Nat} {h : Heap} (Z0 : n0 ≤ h.size) (E0 : Exa Z h x0 "java/lang/String") (F0 : Fld Z h x0 "java/lang/String" "value" "[B" (.ref q)) (F1 : Fld Z h x0 "java/lang/String" "coder" "B" (.int (0 : Int32))) (A0 : OA Z h q .byte [(.int b0_), (.int b1_), (.int b2_)]) (S0 : Sta Z h "java/lang/String" "COMPACT_STRINGS" "Z" (.int cs)) (S1 : Sta Z h "jdk/internal/util/Preconditions" "SIOOBE_FORMATTER" "Ljava/util/function/BiFunction;" fm) (hcs : ¬ cs = (0 : Int32)) (rfm : fm.isRef = true) : OM l Z (⟨"com/example/kartoteka/kartoteka/model/Field", "isControlTag", "(Ljava/lang/CharSequence;)Z"⟩ : MethodName) prog_67_method_9_code 1 (some .boolean) ⟨4, 0, 0, 53⟩ n0 h #[(.ref x0)] (fun v h' => v = some (.int (if (b0_ &&& (255 : Int32)) = (48 : Int32) then (if (b1_ &&& (255 : Int32)) = (48 : Int32) then (1 : Int32) else (0 : Int32)) else (0 : Int32))) ∧ h' = h) 0 0 := by
  refine OM.of_body (ls := #[.val (.ref x0)]) (plainFor_of_name pn_6) (fun m => by first | (simp [entryFrame, mkF, argsToLocals, Value.category]; done) | rfl) ?_
  intro p e s m below meth c C
  refine OG.ow (OG.aloadN C d11_0 rfl rfl (pc' := 1) rfl) ?_
  refine OG.ow (OG.callI C (w66 hw) (w67 hw) (w68 hw) (w69 hw) (w70 hw) (w71 hw) (w72 hw) (w73 hw) (w38 hw) (w74 hw) (by first | rfl | decide) (by decide) E0 (b12 hw x0 Z0 E0 F0 F1 A0 S0 hcs) d11_1 pd_9 rfl (argsL := []) (rest := []) rfl rfl (W := 0) rfl (by decide) (by decide) (pc' := 6) rfl) ?_
  refine OG.ow (OG.iconst C d11_6 (z := (2 : Int32)) rfl (pc' := 7) rfl) ?_
  refine OG.ow (OG.icmpNo C d11_7 (flt (by decide : ¬ ((3 : Int32) < (2 : Int32)))).1 (pc' := 10) rfl) ?_
  refine OG.ow (OG.aloadN C d11_10 rfl rfl (pc' := 11) rfl) ?_
  refine OG.ow (OG.iconst C d11_11 (z := (0 : Int32)) rfl (pc' := 12) rfl) ?_
  refine OG.ow (OG.callI C (w80 hw) (w81 hw) (w82 hw) (w83 hw) (w84 hw) (w85 hw) (w86 hw) (w73 hw) (w38 hw) (w87 hw) (by first | rfl | decide) (by decide) E0 (bSA_0 hw x0 Z0 E0 F0 F1 A0 S0 S1 hcs rfm) d11_12 pd_10 rfl (argsL := [(.int (0 : Int32))]) (rest := []) rfl rfl (W := 0) rfl (by decide) (by decide) (pc' := 17) rfl) ?_
  refine OG.ow (OG.bipush C d11_17 (z := (48 : Int32)) (by decide) (pc' := 19) rfl) ?_
  refine OG.ow (OG.ite (α := Int32) (P := (b0_ &&& (255 : Int32)) = (48 : Int32)) (f := fun v => (mkF m 39 #[.val (.ref x0)] [(.int v)])) (x := (if (b1_ &&& (255 : Int32)) = (48 : Int32) then (1 : Int32) else (0 : Int32))) (y := (0 : Int32)) (fun hc => ?_) (fun hc => ?_)) ?_
  · refine OG.trans (OG.icmpNo C d11_19 (teq hc).2 (pc' := 22) rfl) ?_
    refine OG.trans (OG.aloadN C d11_22 rfl rfl (pc' := 23) rfl) ?_
    refine OG.trans (OG.iconst C d11_23 (z := (1 : Int32)) rfl (pc' := 24) rfl) ?_
    refine OG.trans (OG.callI C (w80 hw) (w81 hw) (w82 hw) (w83 hw) (w84 hw) (w85 hw) (w86 hw) (w73 hw) (w38 hw) (w87 hw) (by first | rfl | decide) (by decide) E0 (bSA_1 hw x0 Z0 E0 F0 F1 A0 S0 S1 hcs rfm) d11_24 pd_10 rfl (argsL := [(.int (1 : Int32))]) (rest := []) rfl rfl (W := 0) rfl (by decide) (by decide) (pc' := 29) rfl) ?_
    refine OG.trans (OG.bipush C d11_29 (z := (48 : Int32)) (by decide) (pc' := 31) rfl) ?_
    refine OG.trans (OG.ite (α := Int32) (P := (b1_ &&& (255 : Int32)) = (48 : Int32)) (f := fun v => (mkF m 39 #[.val (.ref x0)] [(.int v)])) (x := (1 : Int32)) (y := (0 : Int32)) (fun hc => ?_) (fun hc => ?_)) ?_
    · refine OG.trans (OG.icmpNo C d11_31 (teq hc).2 (pc' := 34) rfl) ?_
      refine OG.trans (OG.iconst C d11_34 (z := (1 : Int32)) rfl (pc' := 35) rfl) ?_
      refine OG.trans (OG.goto C d11_35 (by decide) (pc' := 39) (by decide)) ?_
      exact OG.refl
    · refine OG.trans (OG.icmpYes C d11_31 (feq hc).2 (by decide) (pc' := 38) (by decide)) ?_
      refine OG.trans (OG.iconst C d11_38 (z := (0 : Int32)) rfl (pc' := 39) rfl) ?_
      exact OG.refl
    exact OG.refl
  · refine OG.trans (OG.icmpYes C d11_19 (feq hc).2 (by decide) (pc' := 38) (by decide)) ?_
    refine OG.trans (OG.iconst C d11_38 (z := (0 : Int32)) rfl (pc' := 39) rfl) ?_
    exact OG.refl
  refine OW.retN (t := .boolean) C (by simp) d11_39 (by decide) (by decide) ?_
  refine ⟨congrArg (fun z => some (Value.int z)) ?_, rfl⟩
  show nar .boolean (if (b0_ &&& (255 : Int32)) = (48 : Int32) then (if (b1_ &&& (255 : Int32)) = (48 : Int32) then (1 : Int32) else (0 : Int32)) else (0 : Int32)) = (if (b0_ &&& (255 : Int32)) = (48 : Int32) then (if (b1_ &&& (255 : Int32)) = (48 : Int32) then (1 : Int32) else (0 : Int32)) else (0 : Int32))
  by_cases q1 : (b0_ &&& (255 : Int32)) = (48 : Int32) <;> by_cases q2 : (b1_ &&& (255 : Int32)) = (48 : Int32) <;> simp only [q1, q2, if_true, if_false] <;> decide
theorem own_pick {x c : Int32} (h : nar .char (F1 x) = c) : nar .char c = c ∧ ¬ (255 : Int32) < c := by
  have hb : 0 ≤ (F1 x).toInt ∧ (F1 x).toInt ≤ 255 := by
    unfold F1
    split
    · decide
    · rw [i2c_mask]
      generalize (x.toUInt32 >>> ((1 : Int32) &&& 31).toUInt32).toInt32 = z
      have q := c_and z 255 (by decide)
      have e : (255 : Int32).toInt = 255 := by decide
      omega
  generalize F1 x = y at *
  have q := c_i2c y
  have e : nar .char y = y.toUInt32.toUInt16.toUInt32.toInt32 := rfl
  rw [e] at h
  have hy : y = c := by
    apply Int32.toInt_inj.mp
    rw [← h]; omega
  subst hy
  refine ⟨by rw [e]; exact h, ?_⟩
  rw [Int32.lt_iff_toInt_lt]
  have e : (255 : Int32).toInt = 255 := by decide
  omega
theorem own_p (x p0 p1 : Int32) (h0 : (x &&& (3 : Int32)) = p0) (h1 : ((6 : Int32) + ((x.toUInt32 >>> ((2 : Int32) &&& 31).toUInt32).toInt32 &&& (7 : Int32))) = p1) :
    (0 ≤ p0.toInt ∧ p0.toInt < ((16 : Nat) : Int)) ∧ (0 ≤ (p0 + (1 : Int32)).toInt ∧ (p0 + (1 : Int32)).toInt < ((16 : Nat) : Int)) ∧ (0 ≤ (p0 + (2 : Int32)).toInt ∧ (p0 + (2 : Int32)).toInt < ((16 : Nat) : Int)) ∧
    (0 ≤ p1.toInt ∧ p1.toInt < ((16 : Nat) : Int)) ∧ (0 ≤ (p1 + (1 : Int32)).toInt ∧ (p1 + (1 : Int32)).toInt < ((16 : Nat) : Int)) ∧ (0 ≤ (p1 + (2 : Int32)).toInt ∧ (p1 + (2 : Int32)).toInt < ((16 : Nat) : Int)) := by
  have a0 := c_mask x 3 2 (by decide) (by decide)
  generalize (x.toUInt32 >>> ((2 : Int32) &&& 31).toUInt32).toInt32 = z at *
  have a1 := c_mask z 7 3 (by decide) (by decide)
  have a2 := c_iadd 6 (z &&& 7)
  have a3 := rng32 (6 + (z &&& 7))
  have e6 : (6 : Int32).toInt = 6 := by decide
  have e1 : (1 : Int32).toInt = 1 := by decide
  have e2 : (2 : Int32).toInt = 2 := by decide
  rw [h0] at a0
  rw [h1] at a2 a3
  have b1 := c_iadd p0 1
  have b2 := rng32 (p0 + 1)
  have b3 := c_iadd p0 2
  have b4 := rng32 (p0 + 2)
  have b5 := c_iadd p1 1
  have b6 := rng32 (p1 + 1)
  have b7 := c_iadd p1 2
  have b8 := rng32 (p1 + 2)
  omega
theorem own_set6 (l : List Value) (i0 i1 i2 j0 j1 j2 : Nat) (v0 v1 v2 w0 w1 w2 : Value) (hl : l.length = 16) (h : i1 = i0 + 1 ∧ i2 = i0 + 2 ∧ j1 = j0 + 1 ∧ j2 = j0 + 2 ∧ i0 ≤ 3 ∧ 6 ≤ j0 ∧ j0 ≤ 13) :
    ((((((l.set i0 v0).set i1 v1).set i2 v2).set j0 w0).set j1 w1).set j2 w2)[i0]? = some v0 ∧ ((((((l.set i0 v0).set i1 v1).set i2 v2).set j0 w0).set j1 w1).set j2 w2)[i1]? = some v1 ∧
    ((((((l.set i0 v0).set i1 v1).set i2 v2).set j0 w0).set j1 w1).set j2 w2)[j0]? = some w0 ∧ ((((((l.set i0 v0).set i1 v1).set i2 v2).set j0 w0).set j1 w1).set j2 w2)[j1]? = some w1 := by
  obtain ⟨rfl, rfl, rfl, rfl, h1, h2, h3⟩ := h
  refine ⟨?_, ?_, ?_, ?_⟩
  · rw [List.getElem?_set_ne (by omega), List.getElem?_set_ne (by omega), List.getElem?_set_ne (by omega), List.getElem?_set_ne (by omega), List.getElem?_set_ne (by omega), List.getElem?_set_self (by omega)]
  · rw [List.getElem?_set_ne (by omega), List.getElem?_set_ne (by omega), List.getElem?_set_ne (by omega), List.getElem?_set_ne (by omega), List.getElem?_set_self (by simp only [List.length_set]; omega)]
  · rw [List.getElem?_set_ne (by omega), List.getElem?_set_ne (by omega), List.getElem?_set_self (by simp only [List.length_set]; omega)]
  · rw [List.getElem?_set_ne (by omega), List.getElem?_set_self (by simp only [List.length_set]; omega)]
theorem own_reads (p0 p1 c0 c1 c2 c3 c4 c5 x : Int32) (h0 : (x &&& (3 : Int32)) = p0) (h1 : ((6 : Int32) + ((x.toUInt32 >>> ((2 : Int32) &&& 31).toUInt32).toInt32 &&& (7 : Int32))) = p1) :
    ((((((([(.int (0 : Int32)), (.int (0 : Int32)), (.int (0 : Int32)), (.int (0 : Int32)), (.int (0 : Int32)), (.int (0 : Int32)), (.int (0 : Int32)), (.int (0 : Int32)), (.int (0 : Int32)), (.int (0 : Int32)), (.int (0 : Int32)), (.int (0 : Int32)), (.int (0 : Int32)), (.int (0 : Int32)), (.int (0 : Int32)), (.int (0 : Int32))] : List Value).set p0.toNatClampNeg (.int c0.toInt8.toInt32)).set (p0 + (1 : Int32)).toNatClampNeg (.int c1.toInt8.toInt32)).set (p0 + (2 : Int32)).toNatClampNeg (.int c2.toInt8.toInt32)).set p1.toNatClampNeg (.int c3.toInt8.toInt32)).set (p1 + (1 : Int32)).toNatClampNeg (.int c4.toInt8.toInt32)).set (p1 + (2 : Int32)).toNatClampNeg (.int c5.toInt8.toInt32))[p0.toNatClampNeg]? = some (.int c0.toInt8.toInt32) ∧
    ((((((([(.int (0 : Int32)), (.int (0 : Int32)), (.int (0 : Int32)), (.int (0 : Int32)), (.int (0 : Int32)), (.int (0 : Int32)), (.int (0 : Int32)), (.int (0 : Int32)), (.int (0 : Int32)), (.int (0 : Int32)), (.int (0 : Int32)), (.int (0 : Int32)), (.int (0 : Int32)), (.int (0 : Int32)), (.int (0 : Int32)), (.int (0 : Int32))] : List Value).set p0.toNatClampNeg (.int c0.toInt8.toInt32)).set (p0 + (1 : Int32)).toNatClampNeg (.int c1.toInt8.toInt32)).set (p0 + (2 : Int32)).toNatClampNeg (.int c2.toInt8.toInt32)).set p1.toNatClampNeg (.int c3.toInt8.toInt32)).set (p1 + (1 : Int32)).toNatClampNeg (.int c4.toInt8.toInt32)).set (p1 + (2 : Int32)).toNatClampNeg (.int c5.toInt8.toInt32))[(p0 + (1 : Int32)).toNatClampNeg]? = some (.int c1.toInt8.toInt32) ∧
    ((((((([(.int (0 : Int32)), (.int (0 : Int32)), (.int (0 : Int32)), (.int (0 : Int32)), (.int (0 : Int32)), (.int (0 : Int32)), (.int (0 : Int32)), (.int (0 : Int32)), (.int (0 : Int32)), (.int (0 : Int32)), (.int (0 : Int32)), (.int (0 : Int32)), (.int (0 : Int32)), (.int (0 : Int32)), (.int (0 : Int32)), (.int (0 : Int32))] : List Value).set p0.toNatClampNeg (.int c0.toInt8.toInt32)).set (p0 + (1 : Int32)).toNatClampNeg (.int c1.toInt8.toInt32)).set (p0 + (2 : Int32)).toNatClampNeg (.int c2.toInt8.toInt32)).set p1.toNatClampNeg (.int c3.toInt8.toInt32)).set (p1 + (1 : Int32)).toNatClampNeg (.int c4.toInt8.toInt32)).set (p1 + (2 : Int32)).toNatClampNeg (.int c5.toInt8.toInt32))[p1.toNatClampNeg]? = some (.int c3.toInt8.toInt32) ∧
    ((((((([(.int (0 : Int32)), (.int (0 : Int32)), (.int (0 : Int32)), (.int (0 : Int32)), (.int (0 : Int32)), (.int (0 : Int32)), (.int (0 : Int32)), (.int (0 : Int32)), (.int (0 : Int32)), (.int (0 : Int32)), (.int (0 : Int32)), (.int (0 : Int32)), (.int (0 : Int32)), (.int (0 : Int32)), (.int (0 : Int32)), (.int (0 : Int32))] : List Value).set p0.toNatClampNeg (.int c0.toInt8.toInt32)).set (p0 + (1 : Int32)).toNatClampNeg (.int c1.toInt8.toInt32)).set (p0 + (2 : Int32)).toNatClampNeg (.int c2.toInt8.toInt32)).set p1.toNatClampNeg (.int c3.toInt8.toInt32)).set (p1 + (1 : Int32)).toNatClampNeg (.int c4.toInt8.toInt32)).set (p1 + (2 : Int32)).toNatClampNeg (.int c5.toInt8.toInt32))[(p1 + (1 : Int32)).toNatClampNeg]? = some (.int c4.toInt8.toInt32) := by
  refine own_set6 _ _ _ _ _ _ _ _ _ _ _ _ _ rfl ?_
  have a0 := c_mask x 3 2 (by decide) (by decide)
  generalize (x.toUInt32 >>> ((2 : Int32) &&& 31).toUInt32).toInt32 = z at *
  have a1 := c_mask z 7 3 (by decide) (by decide)
  have a2 := c_iadd 6 (z &&& 7)
  have a3 := rng32 (6 + (z &&& 7))
  have e6 : (6 : Int32).toInt = 6 := by decide
  have e1 : (1 : Int32).toInt = 1 := by decide
  have e2 : (2 : Int32).toInt = 2 := by decide
  rw [h0] at a0
  rw [h1] at a2 a3
  have b1 := c_iadd p0 1
  have b2 := rng32 (p0 + 1)
  have b3 := c_iadd p0 2
  have b4 := rng32 (p0 + 2)
  have b5 := c_iadd p1 1
  have b6 := rng32 (p1 + 1)
  have b7 := c_iadd p1 2
  have b8 := rng32 (p1 + 2)
  simp only [Int32.toNatClampNeg]
  omega
theorem own_bq {c u : Int32} (h : c.toInt8.toInt32 = u) : (c.toInt8.toInt32 &&& (255 : Int32)) = (48 : Int32) ↔ u = (48 : Int32) := by
  have q := c_i2b c
  rw [h] at q ⊢
  have m := c_mask u 255 8 (by decide) (by decide)
  have e : (48 : Int32).toInt = 48 := by decide
  rw [← Int32.toInt_inj, ← Int32.toInt_inj, m, e]
  omega
theorem own_fin {c c' u u' : Int32} (h : c.toInt8.toInt32 = u) (h' : c'.toInt8.toInt32 = u') : (if u = (48 : Int32) then (if u' = (48 : Int32) then (1 : Int32) else (0 : Int32)) else (0 : Int32)) = (if (c.toInt8.toInt32 &&& (255 : Int32)) = (48 : Int32) then (if (c'.toInt8.toInt32 &&& (255 : Int32)) = (48 : Int32) then (1 : Int32) else (0 : Int32)) else (0 : Int32)) := by
  simp only [own_bq h, own_bq h']
set_option maxRecDepth 65536 in
set_option maxHeartbeats 40000000 in
theorem b0 {l : Launch} {Z : State} {a0 : Array Value} (hw : HW a0 Z) (x0 : Int32) (x1 : Int32) (x2 : Int32) {cs : Int32} {fm : Value} {n0 : Nat} {h : Heap} (Z0 : n0 ≤ h.size) (S_cs : Sta Z h "java/lang/String" "COMPACT_STRINGS" "Z" (.int cs)) (hcs : ¬ cs = (0 : Int32)) (S_fm : Sta Z h "jdk/internal/util/Preconditions" "SIOOBE_FORMATTER" "Ljava/util/function/BiFunction;" fm) (rfm : fm.isRef = true) : OM l Z x code maxLocals ret room_1 n0 h #[(.int x0), (.int x1), (.int x2)] (fun v h' => v = some (.int 1)) 11 233 := by
  refine OM.of_body (ls := #[.val (.int x0), .val (.int x1), .val (.int x2), .unset, .unset, .unset, .unset, .unset, .unset, .unset, .unset, .unset, .unset, .unset]) (plainFor_of_name pn_4) (fun m => by first | (simp [entryFrame, mkF, argsToLocals, Value.category, maxLocals]; done) | rfl) ?_
  intro p e s m below meth c C
  refine OG.ow (OG.iconst C at_0 (z := (3 : Int32)) rfl (pc' := 1) rfl) ?_
  refine OW.newP C (ty := .char) rfl (w0 hw) (by decide) (cap := 3) (by decide) (by decide) at_1 (by decide) (by decide) (pc' := 3) rfl ?_
  intro a1 h2 ga1 Eh2 Aa1
  refine OG.ow (OG.dup C at_3 rfl (pc' := 4) rfl) ?_
  refine OG.ow (OG.iconst C at_4 (z := (0 : Int32)) rfl (pc' := 5) rfl) ?_
  refine OG.ow (OG.iloadN C at_5 rfl (pc' := 6) rfl) ?_
  refine OG.ow (OG.callS C (w1 hw) (w2 hw) (w3 hw) (w4 hw) (by decide) (b1 hw x0) at_6 pd_10 rfl (argsL := [(.int x0)]) (rest := [(.int (0 : Int32)), (.ref a1), (.ref a1)]) rfl rfl (W := 3) rfl (by decide) (by decide) (pc' := 9) rfl) ?_
  generalize hb0 : (nar .char (F1 x0)) = c0
  obtain ⟨n0, k0⟩ := own_pick hb0
  refine OW.castore C (show OA Z h2 a1 .char [(.int (0 : Int32)), (.int (0 : Int32)), (.int (0 : Int32))] from Aa1) (own_ib (n := 3) rfl (by decide)) (Nat.le_trans Z0 (Nat.le_of_eq ga1)) at_9 (pc' := 10) rfl ?_
  intro h3 Wh3
  rw [n0] at Wh3
  have G4 : OA Z h3 a1 .char [(.int c0), (.int (0 : Int32)), (.int (0 : Int32))] := OA.same (show OA Z h2 a1 .char [(.int (0 : Int32)), (.int (0 : Int32)), (.int (0 : Int32))] from Aa1) Wh3
  refine OG.ow (OG.dup C at_10 rfl (pc' := 11) rfl) ?_
  refine OG.ow (OG.iconst C at_11 (z := (1 : Int32)) rfl (pc' := 12) rfl) ?_
  refine OG.ow (OG.iloadN C at_12 rfl (pc' := 13) rfl) ?_
  refine OG.ow (OG.bipush C at_13 (z := (9 : Int32)) (by decide) (pc' := 15) rfl) ?_
  refine OG.ow (OG.iushr C at_15 (pc' := 16) rfl) ?_
  refine OG.ow (OG.callS C (w1 hw) (w2 hw) (w3 hw) (w4 hw) (by decide) (b1 hw (x0.toUInt32 >>> ((9 : Int32) &&& 31).toUInt32).toInt32) at_16 pd_10 rfl (argsL := [(.int (x0.toUInt32 >>> ((9 : Int32) &&& 31).toUInt32).toInt32)]) (rest := [(.int (1 : Int32)), (.ref a1), (.ref a1)]) rfl rfl (W := 3) rfl (by decide) (by decide) (pc' := 19) rfl) ?_
  generalize hb1 : (nar .char (F1 (x0.toUInt32 >>> ((9 : Int32) &&& 31).toUInt32).toInt32)) = c1
  obtain ⟨n1, k1⟩ := own_pick hb1
  refine OW.castore C G4 (own_ib (n := 3) rfl (by decide)) (Nat.le_trans Z0 (Nat.le_of_eq ga1)) at_19 (pc' := 20) rfl ?_
  intro h5 Wh5
  rw [n1] at Wh5
  have G6 : OA Z h5 a1 .char [(.int c0), (.int c1), (.int (0 : Int32))] := OA.same G4 Wh5
  refine OG.ow (OG.dup C at_20 rfl (pc' := 21) rfl) ?_
  refine OG.ow (OG.iconst C at_21 (z := (2 : Int32)) rfl (pc' := 22) rfl) ?_
  refine OG.ow (OG.iloadN C at_22 rfl (pc' := 23) rfl) ?_
  refine OG.ow (OG.bipush C at_23 (z := (18 : Int32)) (by decide) (pc' := 25) rfl) ?_
  refine OG.ow (OG.iushr C at_25 (pc' := 26) rfl) ?_
  refine OG.ow (OG.callS C (w1 hw) (w2 hw) (w3 hw) (w4 hw) (by decide) (b1 hw (x0.toUInt32 >>> ((18 : Int32) &&& 31).toUInt32).toInt32) at_26 pd_10 rfl (argsL := [(.int (x0.toUInt32 >>> ((18 : Int32) &&& 31).toUInt32).toInt32)]) (rest := [(.int (2 : Int32)), (.ref a1), (.ref a1)]) rfl rfl (W := 3) rfl (by decide) (by decide) (pc' := 29) rfl) ?_
  generalize hb2 : (nar .char (F1 (x0.toUInt32 >>> ((18 : Int32) &&& 31).toUInt32).toInt32)) = c2
  obtain ⟨n2, k2⟩ := own_pick hb2
  refine OW.castore C G6 (own_ib (n := 3) rfl (by decide)) (Nat.le_trans Z0 (Nat.le_of_eq ga1)) at_29 (pc' := 30) rfl ?_
  intro h7 Wh7
  rw [n2] at Wh7
  have G8 : OA Z h7 a1 .char [(.int c0), (.int c1), (.int c2)] := OA.same G6 Wh7
  refine OG.ow (OG.astoreN C at_30 rfl (ls' := #[.val (.int x0), .val (.int x1), .val (.int x2), .val (.ref a1), .unset, .unset, .unset, .unset, .unset, .unset, .unset, .unset, .unset, .unset]) rfl (pc' := 31) rfl) ?_
  refine OG.ow (OG.iconst C at_31 (z := (3 : Int32)) rfl (pc' := 32) rfl) ?_
  refine OW.newP C (ty := .char) rfl (w0 hw) (by decide) (cap := 3) (by decide) (by decide) at_32 (by decide) (by decide) (pc' := 34) rfl ?_
  intro a9 h10 ga9 Eh10 Aa9
  refine OG.ow (OG.dup C at_34 rfl (pc' := 35) rfl) ?_
  refine OG.ow (OG.iconst C at_35 (z := (0 : Int32)) rfl (pc' := 36) rfl) ?_
  refine OG.ow (OG.iloadN C at_36 rfl (pc' := 37) rfl) ?_
  refine OG.ow (OG.callS C (w1 hw) (w2 hw) (w3 hw) (w4 hw) (by decide) (b1 hw x1) at_37 pd_10 rfl (argsL := [(.int x1)]) (rest := [(.int (0 : Int32)), (.ref a9), (.ref a9)]) rfl rfl (W := 3) rfl (by decide) (by decide) (pc' := 40) rfl) ?_
  generalize hb3 : (nar .char (F1 x1)) = c3
  obtain ⟨n3, k3⟩ := own_pick hb3
  refine OW.castore C (show OA Z h10 a9 .char [(.int (0 : Int32)), (.int (0 : Int32)), (.int (0 : Int32))] from Aa9) (own_ib (n := 3) rfl (by decide)) (Nat.le_trans (Nat.le_trans (Nat.le_trans (Nat.le_trans (Nat.le_trans Z0 Eh2.1) (Nat.le_of_eq Wh3.size.symm)) (Nat.le_of_eq Wh5.size.symm)) (Nat.le_of_eq Wh7.size.symm)) (Nat.le_of_eq ga9)) at_40 (pc' := 41) rfl ?_
  intro h11 Wh11
  rw [n3] at Wh11
  have G12 : OA Z h11 a9 .char [(.int c3), (.int (0 : Int32)), (.int (0 : Int32))] := OA.same (show OA Z h10 a9 .char [(.int (0 : Int32)), (.int (0 : Int32)), (.int (0 : Int32))] from Aa9) Wh11
  refine OG.ow (OG.dup C at_41 rfl (pc' := 42) rfl) ?_
  refine OG.ow (OG.iconst C at_42 (z := (1 : Int32)) rfl (pc' := 43) rfl) ?_
  refine OG.ow (OG.iloadN C at_43 rfl (pc' := 44) rfl) ?_
  refine OG.ow (OG.bipush C at_44 (z := (9 : Int32)) (by decide) (pc' := 46) rfl) ?_
  refine OG.ow (OG.iushr C at_46 (pc' := 47) rfl) ?_
  refine OG.ow (OG.callS C (w1 hw) (w2 hw) (w3 hw) (w4 hw) (by decide) (b1 hw (x1.toUInt32 >>> ((9 : Int32) &&& 31).toUInt32).toInt32) at_47 pd_10 rfl (argsL := [(.int (x1.toUInt32 >>> ((9 : Int32) &&& 31).toUInt32).toInt32)]) (rest := [(.int (1 : Int32)), (.ref a9), (.ref a9)]) rfl rfl (W := 3) rfl (by decide) (by decide) (pc' := 50) rfl) ?_
  generalize hb4 : (nar .char (F1 (x1.toUInt32 >>> ((9 : Int32) &&& 31).toUInt32).toInt32)) = c4
  obtain ⟨n4, k4⟩ := own_pick hb4
  refine OW.castore C G12 (own_ib (n := 3) rfl (by decide)) (Nat.le_trans (Nat.le_trans (Nat.le_trans (Nat.le_trans (Nat.le_trans Z0 Eh2.1) (Nat.le_of_eq Wh3.size.symm)) (Nat.le_of_eq Wh5.size.symm)) (Nat.le_of_eq Wh7.size.symm)) (Nat.le_of_eq ga9)) at_50 (pc' := 51) rfl ?_
  intro h13 Wh13
  rw [n4] at Wh13
  have G14 : OA Z h13 a9 .char [(.int c3), (.int c4), (.int (0 : Int32))] := OA.same G12 Wh13
  refine OG.ow (OG.dup C at_51 rfl (pc' := 52) rfl) ?_
  refine OG.ow (OG.iconst C at_52 (z := (2 : Int32)) rfl (pc' := 53) rfl) ?_
  refine OG.ow (OG.iloadN C at_53 rfl (pc' := 54) rfl) ?_
  refine OG.ow (OG.bipush C at_54 (z := (18 : Int32)) (by decide) (pc' := 56) rfl) ?_
  refine OG.ow (OG.iushr C at_56 (pc' := 57) rfl) ?_
  refine OG.ow (OG.callS C (w1 hw) (w2 hw) (w3 hw) (w4 hw) (by decide) (b1 hw (x1.toUInt32 >>> ((18 : Int32) &&& 31).toUInt32).toInt32) at_57 pd_10 rfl (argsL := [(.int (x1.toUInt32 >>> ((18 : Int32) &&& 31).toUInt32).toInt32)]) (rest := [(.int (2 : Int32)), (.ref a9), (.ref a9)]) rfl rfl (W := 3) rfl (by decide) (by decide) (pc' := 60) rfl) ?_
  generalize hb5 : (nar .char (F1 (x1.toUInt32 >>> ((18 : Int32) &&& 31).toUInt32).toInt32)) = c5
  obtain ⟨n5, k5⟩ := own_pick hb5
  refine OW.castore C G14 (own_ib (n := 3) rfl (by decide)) (Nat.le_trans (Nat.le_trans (Nat.le_trans (Nat.le_trans (Nat.le_trans Z0 Eh2.1) (Nat.le_of_eq Wh3.size.symm)) (Nat.le_of_eq Wh5.size.symm)) (Nat.le_of_eq Wh7.size.symm)) (Nat.le_of_eq ga9)) at_60 (pc' := 61) rfl ?_
  intro h15 Wh15
  rw [n5] at Wh15
  have G16 : OA Z h15 a9 .char [(.int c3), (.int c4), (.int c5)] := OA.same G14 Wh15
  refine OG.ow (OG.astore C at_61 rfl (ls' := #[.val (.int x0), .val (.int x1), .val (.int x2), .val (.ref a1), .val (.ref a9), .unset, .unset, .unset, .unset, .unset, .unset, .unset, .unset, .unset]) rfl (pc' := 63) rfl) ?_
  refine OG.ow (OG.iloadN C at_63 rfl (pc' := 64) rfl) ?_
  refine OG.ow (OG.iconst C at_64 (z := (3 : Int32)) rfl (pc' := 65) rfl) ?_
  refine OG.ow (OG.iand C at_65 (pc' := 66) rfl) ?_
  refine OG.ow (OG.istore C at_66 (ls' := #[.val (.int x0), .val (.int x1), .val (.int x2), .val (.ref a1), .val (.ref a9), .val (.int (x2 &&& (3 : Int32))), .unset, .unset, .unset, .unset, .unset, .unset, .unset, .unset]) rfl (pc' := 68) rfl) ?_
  refine OG.ow (OG.bipush C at_68 (z := (6 : Int32)) (by decide) (pc' := 70) rfl) ?_
  refine OG.ow (OG.iloadN C at_70 rfl (pc' := 71) rfl) ?_
  refine OG.ow (OG.iconst C at_71 (z := (2 : Int32)) rfl (pc' := 72) rfl) ?_
  refine OG.ow (OG.iushr C at_72 (pc' := 73) rfl) ?_
  refine OG.ow (OG.bipush C at_73 (z := (7 : Int32)) (by decide) (pc' := 75) rfl) ?_
  refine OG.ow (OG.iand C at_75 (pc' := 76) rfl) ?_
  refine OG.ow (OG.iadd C at_76 (pc' := 77) rfl) ?_
  refine OG.ow (OG.istore C at_77 (ls' := #[.val (.int x0), .val (.int x1), .val (.int x2), .val (.ref a1), .val (.ref a9), .val (.int (x2 &&& (3 : Int32))), .val (.int ((6 : Int32) + ((x2.toUInt32 >>> ((2 : Int32) &&& 31).toUInt32).toInt32 &&& (7 : Int32)))), .unset, .unset, .unset, .unset, .unset, .unset, .unset]) rfl (pc' := 79) rfl) ?_
  generalize hp0 : (x2 &&& (3 : Int32)) = p0
  generalize hp1 : ((6 : Int32) + ((x2.toUInt32 >>> ((2 : Int32) &&& 31).toUInt32).toInt32 &&& (7 : Int32))) = p1
  obtain ⟨r0, r1, r2, r3, r4, r5⟩ := own_p x2 p0 p1 hp0 hp1
  refine OG.ow (OG.iloadN C at_79 rfl (pc' := 80) rfl) ?_
  refine OG.ow (OG.iconst C at_80 (z := (5 : Int32)) rfl (pc' := 81) rfl) ?_
  refine OG.ow (OG.iushr C at_81 (pc' := 82) rfl) ?_
  refine OG.ow (OG.iconst C at_82 (z := (1 : Int32)) rfl (pc' := 83) rfl) ?_
  refine OG.ow (OG.iand C at_83 (pc' := 84) rfl) ?_
  refine OG.ow (OG.ite (α := Int32) (P := ((x2.toUInt32 >>> ((5 : Int32) &&& 31).toUInt32).toInt32 &&& (1 : Int32)) = (0 : Int32)) (f := fun v => (mkF m 92 #[.val (.int x0), .val (.int x1), .val (.int x2), .val (.ref a1), .val (.ref a9), .val (.int p0), .val (.int p1), .unset, .unset, .unset, .unset, .unset, .unset, .unset] [(.int v)])) (x := (0 : Int32)) (y := (1 : Int32)) (fun hc => ?_) (fun hc => ?_)) ?_
  · refine OG.trans (OG.ifYes C at_84 ((if0 _ _).trans (teq hc).1) (by decide) (pc' := 91) (by decide)) ?_
    refine OG.trans (OG.iconst C at_91 (z := (0 : Int32)) rfl (pc' := 92) rfl) ?_
    exact OG.refl
  · refine OG.trans (OG.ifNo C at_84 ((if0 _ _).trans (feq hc).1) (pc' := 87) rfl) ?_
    refine OG.trans (OG.iconst C at_87 (z := (1 : Int32)) rfl (pc' := 88) rfl) ?_
    refine OG.trans (OG.goto C at_88 (by decide) (pc' := 92) (by decide)) ?_
    exact OG.refl
  refine OG.ow (OG.istore C at_92 (ls' := #[.val (.int x0), .val (.int x1), .val (.int x2), .val (.ref a1), .val (.ref a9), .val (.int p0), .val (.int p1), .val (.int (if ((x2.toUInt32 >>> ((5 : Int32) &&& 31).toUInt32).toInt32 &&& (1 : Int32)) = (0 : Int32) then (0 : Int32) else (1 : Int32))), .unset, .unset, .unset, .unset, .unset, .unset]) rfl (pc' := 94) rfl) ?_
  refine OW.newO C (w5 hw) (w6 hw) (w7 hw) at_94 (by decide) (by decide) (pc' := 97) rfl ?_
  intro a17 h18 ga17 Eh18 Aa17 Da17
  refine OG.ow (OG.dup C at_97 rfl (pc' := 98) rfl) ?_
  refine OG.ow (OG.bipush C at_98 (z := (16 : Int32)) (by decide) (pc' := 100) rfl) ?_
  refine OW.init C (w8 hw) (w9 hw) (w7 hw) (w10 hw) rfl (by decide) (b2 hw a17 (Nat.le_trans (Nat.le_trans (Nat.le_trans (Nat.le_trans (Nat.le_trans (Nat.le_trans (Nat.le_trans (Nat.le_trans (Nat.le_trans Z0 Eh2.1) (Nat.le_of_eq Wh3.size.symm)) (Nat.le_of_eq Wh5.size.symm)) (Nat.le_of_eq Wh7.size.symm)) Eh10.1) (Nat.le_of_eq Wh11.size.symm)) (Nat.le_of_eq Wh13.size.symm)) (Nat.le_of_eq Wh15.size.symm)) Eh18.1) (Nat.le_trans (Nat.le_trans (Nat.le_trans (Nat.le_trans (Nat.le_trans (Nat.le_trans (Nat.le_trans (Nat.le_trans (Nat.le_trans Z0 Eh2.1) (Nat.le_of_eq Wh3.size.symm)) (Nat.le_of_eq Wh5.size.symm)) (Nat.le_of_eq Wh7.size.symm)) Eh10.1) (Nat.le_of_eq Wh11.size.symm)) (Nat.le_of_eq Wh13.size.symm)) (Nat.le_of_eq Wh15.size.symm)) (Nat.le_of_eq ga17)) Aa17 (show Fld Z h18 a17 "com/example/kartoteka/kartoteka/model/StoredRecord" "bytes" "[B" .null from Da17 (Or.inl (w23 hw)) (ty := (.array .byte)) (by decide)) (show Fld Z h18 a17 "com/example/kartoteka/kartoteka/model/StoredRecord" "fields" "I" (.int (0 : Int32)) from Da17 (Or.inl (w35 hw)) (ty := .int) (by decide)) (show Fld Z h18 a17 "com/example/kartoteka/kartoteka/model/StoredRecord" "tags" "[I" .null from Da17 (Or.inl (w16 hw)) (ty := (.array .int)) (by decide)) (show Fld Z h18 a17 "com/example/kartoteka/kartoteka/model/StoredRecord" "starts" "[I" .null from Da17 (Or.inl (w18 hw)) (ty := (.array .int)) (by decide)) (show Fld Z h18 a17 "com/example/kartoteka/kartoteka/model/StoredRecord" "lengths" "[I" .null from Da17 (Or.inl (w20 hw)) (ty := (.array .int)) (by decide))) at_100 pd_11 rfl (argsL := [(.int (16 : Int32))]) (rest := [(.ref a17)]) rfl rfl (W := 1) rfl (by decide) (by decide) (by decide) (by decide) (pc' := 103) rfl ?_
  intro vh19 h19 qh19
  obtain ⟨rfl, Kh19, bt, tg, sr, ln, ⟨gbt, gtg, gsr, gln⟩, ⟨d1, d2, d3, d4, d5, d6⟩, ⟨F_bytes_h19, F_fields_h19, F_tags_h19, F_starts_h19, F_lengths_h19⟩, Abt, Atg, Asr, Aln⟩ := qh19
  refine OG.ow (OG.astore C at_103 rfl (ls' := #[.val (.int x0), .val (.int x1), .val (.int x2), .val (.ref a1), .val (.ref a9), .val (.int p0), .val (.int p1), .val (.int (if ((x2.toUInt32 >>> ((5 : Int32) &&& 31).toUInt32).toInt32 &&& (1 : Int32)) = (0 : Int32) then (0 : Int32) else (1 : Int32))), .val (.ref a17), .unset, .unset, .unset, .unset, .unset]) rfl (pc' := 105) rfl) ?_
  refine OG.ow (OG.aload C at_105 rfl rfl (pc' := 107) rfl) ?_
  refine OG.ow (OG.bipush C at_107 (z := (16 : Int32)) (by decide) (pc' := 109) rfl) ?_
  have G20 := (Aa17.keep Kh19)
  refine OG.ow (OG.callV C (w24 hw) (w25 hw) (w27 hw) (w26 hw) (w7 hw) (w28 hw) (by decide) G20 (b4 hw a17 (Nat.le_trans (Nat.le_trans (Nat.le_trans (Nat.le_trans (Nat.le_trans (Nat.le_trans (Nat.le_trans (Nat.le_trans (Nat.le_trans (Nat.le_trans Z0 Eh2.1) (Nat.le_of_eq Wh3.size.symm)) (Nat.le_of_eq Wh5.size.symm)) (Nat.le_of_eq Wh7.size.symm)) Eh10.1) (Nat.le_of_eq Wh11.size.symm)) (Nat.le_of_eq Wh13.size.symm)) (Nat.le_of_eq Wh15.size.symm)) Eh18.1) Kh19.1) F_bytes_h19 Abt) at_109 pd_12 rfl (argsL := [(.int (16 : Int32))]) (rest := []) rfl rfl (W := 0) rfl (by decide) (by decide) (pc' := 112) rfl) ?_
  refine OG.ow (OG.astore C at_112 rfl (ls' := #[.val (.int x0), .val (.int x1), .val (.int x2), .val (.ref a1), .val (.ref a9), .val (.int p0), .val (.int p1), .val (.int (if ((x2.toUInt32 >>> ((5 : Int32) &&& 31).toUInt32).toInt32 &&& (1 : Int32)) = (0 : Int32) then (0 : Int32) else (1 : Int32))), .val (.ref a17), .val (.ref bt), .unset, .unset, .unset, .unset]) rfl (pc' := 114) rfl) ?_
  refine OG.ow (OG.aload C at_114 rfl rfl (pc' := 116) rfl) ?_
  refine OG.ow (OG.iload C at_116 rfl (pc' := 118) rfl) ?_
  refine OG.ow (OG.aloadN C at_118 rfl rfl (pc' := 119) rfl) ?_
  refine OG.ow (OG.iconst C at_119 (z := (0 : Int32)) rfl (pc' := 120) rfl) ?_
  have G21 := (((OA.other (OA.other (OA.other (G8.ext Eh10) Wh11 (Nat.ne_of_lt (Nat.lt_of_lt_of_le (Nat.lt_of_lt_of_le ((show OA Z h2 a1 .char [(.int (0 : Int32)), (.int (0 : Int32)), (.int (0 : Int32))] from Aa1)).lt (Nat.le_trans (Nat.le_trans (Nat.le_trans (Nat.le_refl _) (Nat.le_of_eq Wh3.size.symm)) (Nat.le_of_eq Wh5.size.symm)) (Nat.le_of_eq Wh7.size.symm))) (Nat.le_of_eq ga9)))) Wh13 (Nat.ne_of_lt (Nat.lt_of_lt_of_le (Nat.lt_of_lt_of_le ((show OA Z h2 a1 .char [(.int (0 : Int32)), (.int (0 : Int32)), (.int (0 : Int32))] from Aa1)).lt (Nat.le_trans (Nat.le_trans (Nat.le_trans (Nat.le_refl _) (Nat.le_of_eq Wh3.size.symm)) (Nat.le_of_eq Wh5.size.symm)) (Nat.le_of_eq Wh7.size.symm))) (Nat.le_of_eq ga9)))) Wh15 (Nat.ne_of_lt (Nat.lt_of_lt_of_le (Nat.lt_of_lt_of_le ((show OA Z h2 a1 .char [(.int (0 : Int32)), (.int (0 : Int32)), (.int (0 : Int32))] from Aa1)).lt (Nat.le_trans (Nat.le_trans (Nat.le_trans (Nat.le_refl _) (Nat.le_of_eq Wh3.size.symm)) (Nat.le_of_eq Wh5.size.symm)) (Nat.le_of_eq Wh7.size.symm))) (Nat.le_of_eq ga9)))).ext Eh18).keep Kh19 (ninS (Nat.ne_of_lt (Nat.lt_of_lt_of_le (Nat.lt_of_lt_of_le ((show OA Z h2 a1 .char [(.int (0 : Int32)), (.int (0 : Int32)), (.int (0 : Int32))] from Aa1)).lt (Nat.le_trans (Nat.le_trans (Nat.le_trans (Nat.le_trans (Nat.le_trans (Nat.le_trans (Nat.le_trans (Nat.le_refl _) (Nat.le_of_eq Wh3.size.symm)) (Nat.le_of_eq Wh5.size.symm)) (Nat.le_of_eq Wh7.size.symm)) Eh10.1) (Nat.le_of_eq Wh11.size.symm)) (Nat.le_of_eq Wh13.size.symm)) (Nat.le_of_eq Wh15.size.symm))) (Nat.le_of_eq ga17))) nin0))
  refine OG.ow (OG.caload C G21 (own_ib (n := 3) rfl (by decide)) rfl at_120 (pc' := 121) rfl) ?_
  refine OG.ow (OG.i2b C at_121 (pc' := 122) rfl) ?_
  refine OW.bastore C Abt (own_ib (n := 16) (by simp) r0) (Nat.le_trans (Nat.le_trans (Nat.le_trans (Nat.le_trans (Nat.le_trans (Nat.le_trans (Nat.le_trans (Nat.le_trans (Nat.le_trans (Nat.le_trans Z0 Eh2.1) (Nat.le_of_eq Wh3.size.symm)) (Nat.le_of_eq Wh5.size.symm)) (Nat.le_of_eq Wh7.size.symm)) Eh10.1) (Nat.le_of_eq Wh11.size.symm)) (Nat.le_of_eq Wh13.size.symm)) (Nat.le_of_eq Wh15.size.symm)) Eh18.1) gbt) at_122 (pc' := 123) rfl ?_
  intro h22 Wh22
  rw [(own_nb _)] at Wh22
  have G23 : OA Z h22 bt .byte ([(.int (0 : Int32)), (.int (0 : Int32)), (.int (0 : Int32)), (.int (0 : Int32)), (.int (0 : Int32)), (.int (0 : Int32)), (.int (0 : Int32)), (.int (0 : Int32)), (.int (0 : Int32)), (.int (0 : Int32)), (.int (0 : Int32)), (.int (0 : Int32)), (.int (0 : Int32)), (.int (0 : Int32)), (.int (0 : Int32)), (.int (0 : Int32))].set p0.toNatClampNeg (.int c0.toInt8.toInt32)) := OA.same Abt Wh22
  refine OG.ow (OG.aload C at_123 rfl rfl (pc' := 125) rfl) ?_
  refine OG.ow (OG.iload C at_125 rfl (pc' := 127) rfl) ?_
  refine OG.ow (OG.iconst C at_127 (z := (1 : Int32)) rfl (pc' := 128) rfl) ?_
  refine OG.ow (OG.iadd C at_128 (pc' := 129) rfl) ?_
  refine OG.ow (OG.aloadN C at_129 rfl rfl (pc' := 130) rfl) ?_
  refine OG.ow (OG.iconst C at_130 (z := (1 : Int32)) rfl (pc' := 131) rfl) ?_
  have G24 := (OA.other G21 Wh22 (Nat.ne_of_lt (Nat.lt_of_lt_of_le (Nat.lt_of_lt_of_le ((show OA Z h2 a1 .char [(.int (0 : Int32)), (.int (0 : Int32)), (.int (0 : Int32))] from Aa1)).lt (Nat.le_trans (Nat.le_trans (Nat.le_trans (Nat.le_trans (Nat.le_trans (Nat.le_trans (Nat.le_trans (Nat.le_trans (Nat.le_refl _) (Nat.le_of_eq Wh3.size.symm)) (Nat.le_of_eq Wh5.size.symm)) (Nat.le_of_eq Wh7.size.symm)) Eh10.1) (Nat.le_of_eq Wh11.size.symm)) (Nat.le_of_eq Wh13.size.symm)) (Nat.le_of_eq Wh15.size.symm)) Eh18.1)) gbt)))
  refine OG.ow (OG.caload C G24 (own_ib (n := 3) rfl (by decide)) rfl at_131 (pc' := 132) rfl) ?_
  refine OG.ow (OG.i2b C at_132 (pc' := 133) rfl) ?_
  refine OW.bastore C G23 (own_ib (n := 16) (by simp) r1) (Nat.le_trans (Nat.le_trans (Nat.le_trans (Nat.le_trans (Nat.le_trans (Nat.le_trans (Nat.le_trans (Nat.le_trans (Nat.le_trans (Nat.le_trans Z0 Eh2.1) (Nat.le_of_eq Wh3.size.symm)) (Nat.le_of_eq Wh5.size.symm)) (Nat.le_of_eq Wh7.size.symm)) Eh10.1) (Nat.le_of_eq Wh11.size.symm)) (Nat.le_of_eq Wh13.size.symm)) (Nat.le_of_eq Wh15.size.symm)) Eh18.1) gbt) at_133 (pc' := 134) rfl ?_
  intro h25 Wh25
  rw [(own_nb _)] at Wh25
  have G26 : OA Z h25 bt .byte (([(.int (0 : Int32)), (.int (0 : Int32)), (.int (0 : Int32)), (.int (0 : Int32)), (.int (0 : Int32)), (.int (0 : Int32)), (.int (0 : Int32)), (.int (0 : Int32)), (.int (0 : Int32)), (.int (0 : Int32)), (.int (0 : Int32)), (.int (0 : Int32)), (.int (0 : Int32)), (.int (0 : Int32)), (.int (0 : Int32)), (.int (0 : Int32))].set p0.toNatClampNeg (.int c0.toInt8.toInt32)).set (p0 + (1 : Int32)).toNatClampNeg (.int c1.toInt8.toInt32)) := OA.same G23 Wh25
  refine OG.ow (OG.aload C at_134 rfl rfl (pc' := 136) rfl) ?_
  refine OG.ow (OG.iload C at_136 rfl (pc' := 138) rfl) ?_
  refine OG.ow (OG.iconst C at_138 (z := (2 : Int32)) rfl (pc' := 139) rfl) ?_
  refine OG.ow (OG.iadd C at_139 (pc' := 140) rfl) ?_
  refine OG.ow (OG.aloadN C at_140 rfl rfl (pc' := 141) rfl) ?_
  refine OG.ow (OG.iconst C at_141 (z := (2 : Int32)) rfl (pc' := 142) rfl) ?_
  have G27 := (OA.other G24 Wh25 (Nat.ne_of_lt (Nat.lt_of_lt_of_le (Nat.lt_of_lt_of_le ((show OA Z h2 a1 .char [(.int (0 : Int32)), (.int (0 : Int32)), (.int (0 : Int32))] from Aa1)).lt (Nat.le_trans (Nat.le_trans (Nat.le_trans (Nat.le_trans (Nat.le_trans (Nat.le_trans (Nat.le_trans (Nat.le_trans (Nat.le_refl _) (Nat.le_of_eq Wh3.size.symm)) (Nat.le_of_eq Wh5.size.symm)) (Nat.le_of_eq Wh7.size.symm)) Eh10.1) (Nat.le_of_eq Wh11.size.symm)) (Nat.le_of_eq Wh13.size.symm)) (Nat.le_of_eq Wh15.size.symm)) Eh18.1)) gbt)))
  refine OG.ow (OG.caload C G27 (own_ib (n := 3) rfl (by decide)) rfl at_142 (pc' := 143) rfl) ?_
  refine OG.ow (OG.i2b C at_143 (pc' := 144) rfl) ?_
  refine OW.bastore C G26 (own_ib (n := 16) (by simp) r2) (Nat.le_trans (Nat.le_trans (Nat.le_trans (Nat.le_trans (Nat.le_trans (Nat.le_trans (Nat.le_trans (Nat.le_trans (Nat.le_trans (Nat.le_trans Z0 Eh2.1) (Nat.le_of_eq Wh3.size.symm)) (Nat.le_of_eq Wh5.size.symm)) (Nat.le_of_eq Wh7.size.symm)) Eh10.1) (Nat.le_of_eq Wh11.size.symm)) (Nat.le_of_eq Wh13.size.symm)) (Nat.le_of_eq Wh15.size.symm)) Eh18.1) gbt) at_144 (pc' := 145) rfl ?_
  intro h28 Wh28
  rw [(own_nb _)] at Wh28
  have G29 : OA Z h28 bt .byte ((([(.int (0 : Int32)), (.int (0 : Int32)), (.int (0 : Int32)), (.int (0 : Int32)), (.int (0 : Int32)), (.int (0 : Int32)), (.int (0 : Int32)), (.int (0 : Int32)), (.int (0 : Int32)), (.int (0 : Int32)), (.int (0 : Int32)), (.int (0 : Int32)), (.int (0 : Int32)), (.int (0 : Int32)), (.int (0 : Int32)), (.int (0 : Int32))].set p0.toNatClampNeg (.int c0.toInt8.toInt32)).set (p0 + (1 : Int32)).toNatClampNeg (.int c1.toInt8.toInt32)).set (p0 + (2 : Int32)).toNatClampNeg (.int c2.toInt8.toInt32)) := OA.same G26 Wh28
  refine OG.ow (OG.aload C at_145 rfl rfl (pc' := 147) rfl) ?_
  refine OG.ow (OG.iload C at_147 rfl (pc' := 149) rfl) ?_
  refine OG.ow (OG.aload C at_149 rfl rfl (pc' := 151) rfl) ?_
  refine OG.ow (OG.iconst C at_151 (z := (0 : Int32)) rfl (pc' := 152) rfl) ?_
  have G30 := (OA.other (OA.other (OA.other ((G16.ext Eh18).keep Kh19 (ninS (Nat.ne_of_lt (Nat.lt_of_lt_of_le (Nat.lt_of_lt_of_le ((show OA Z h10 a9 .char [(.int (0 : Int32)), (.int (0 : Int32)), (.int (0 : Int32))] from Aa9)).lt (Nat.le_trans (Nat.le_trans (Nat.le_trans (Nat.le_refl _) (Nat.le_of_eq Wh11.size.symm)) (Nat.le_of_eq Wh13.size.symm)) (Nat.le_of_eq Wh15.size.symm))) (Nat.le_of_eq ga17))) nin0)) Wh22 (Nat.ne_of_lt (Nat.lt_of_lt_of_le (Nat.lt_of_lt_of_le ((show OA Z h10 a9 .char [(.int (0 : Int32)), (.int (0 : Int32)), (.int (0 : Int32))] from Aa9)).lt (Nat.le_trans (Nat.le_trans (Nat.le_trans (Nat.le_trans (Nat.le_refl _) (Nat.le_of_eq Wh11.size.symm)) (Nat.le_of_eq Wh13.size.symm)) (Nat.le_of_eq Wh15.size.symm)) Eh18.1)) gbt))) Wh25 (Nat.ne_of_lt (Nat.lt_of_lt_of_le (Nat.lt_of_lt_of_le ((show OA Z h10 a9 .char [(.int (0 : Int32)), (.int (0 : Int32)), (.int (0 : Int32))] from Aa9)).lt (Nat.le_trans (Nat.le_trans (Nat.le_trans (Nat.le_trans (Nat.le_refl _) (Nat.le_of_eq Wh11.size.symm)) (Nat.le_of_eq Wh13.size.symm)) (Nat.le_of_eq Wh15.size.symm)) Eh18.1)) gbt))) Wh28 (Nat.ne_of_lt (Nat.lt_of_lt_of_le (Nat.lt_of_lt_of_le ((show OA Z h10 a9 .char [(.int (0 : Int32)), (.int (0 : Int32)), (.int (0 : Int32))] from Aa9)).lt (Nat.le_trans (Nat.le_trans (Nat.le_trans (Nat.le_trans (Nat.le_refl _) (Nat.le_of_eq Wh11.size.symm)) (Nat.le_of_eq Wh13.size.symm)) (Nat.le_of_eq Wh15.size.symm)) Eh18.1)) gbt)))
  refine OG.ow (OG.caload C G30 (own_ib (n := 3) rfl (by decide)) rfl at_152 (pc' := 153) rfl) ?_
  refine OG.ow (OG.i2b C at_153 (pc' := 154) rfl) ?_
  refine OW.bastore C G29 (own_ib (n := 16) (by simp) r3) (Nat.le_trans (Nat.le_trans (Nat.le_trans (Nat.le_trans (Nat.le_trans (Nat.le_trans (Nat.le_trans (Nat.le_trans (Nat.le_trans (Nat.le_trans Z0 Eh2.1) (Nat.le_of_eq Wh3.size.symm)) (Nat.le_of_eq Wh5.size.symm)) (Nat.le_of_eq Wh7.size.symm)) Eh10.1) (Nat.le_of_eq Wh11.size.symm)) (Nat.le_of_eq Wh13.size.symm)) (Nat.le_of_eq Wh15.size.symm)) Eh18.1) gbt) at_154 (pc' := 155) rfl ?_
  intro h31 Wh31
  rw [(own_nb _)] at Wh31
  have G32 : OA Z h31 bt .byte (((([(.int (0 : Int32)), (.int (0 : Int32)), (.int (0 : Int32)), (.int (0 : Int32)), (.int (0 : Int32)), (.int (0 : Int32)), (.int (0 : Int32)), (.int (0 : Int32)), (.int (0 : Int32)), (.int (0 : Int32)), (.int (0 : Int32)), (.int (0 : Int32)), (.int (0 : Int32)), (.int (0 : Int32)), (.int (0 : Int32)), (.int (0 : Int32))].set p0.toNatClampNeg (.int c0.toInt8.toInt32)).set (p0 + (1 : Int32)).toNatClampNeg (.int c1.toInt8.toInt32)).set (p0 + (2 : Int32)).toNatClampNeg (.int c2.toInt8.toInt32)).set p1.toNatClampNeg (.int c3.toInt8.toInt32)) := OA.same G29 Wh31
  refine OG.ow (OG.aload C at_155 rfl rfl (pc' := 157) rfl) ?_
  refine OG.ow (OG.iload C at_157 rfl (pc' := 159) rfl) ?_
  refine OG.ow (OG.iconst C at_159 (z := (1 : Int32)) rfl (pc' := 160) rfl) ?_
  refine OG.ow (OG.iadd C at_160 (pc' := 161) rfl) ?_
  refine OG.ow (OG.aload C at_161 rfl rfl (pc' := 163) rfl) ?_
  refine OG.ow (OG.iconst C at_163 (z := (1 : Int32)) rfl (pc' := 164) rfl) ?_
  have G33 := (OA.other G30 Wh31 (Nat.ne_of_lt (Nat.lt_of_lt_of_le (Nat.lt_of_lt_of_le ((show OA Z h10 a9 .char [(.int (0 : Int32)), (.int (0 : Int32)), (.int (0 : Int32))] from Aa9)).lt (Nat.le_trans (Nat.le_trans (Nat.le_trans (Nat.le_trans (Nat.le_refl _) (Nat.le_of_eq Wh11.size.symm)) (Nat.le_of_eq Wh13.size.symm)) (Nat.le_of_eq Wh15.size.symm)) Eh18.1)) gbt)))
  refine OG.ow (OG.caload C G33 (own_ib (n := 3) rfl (by decide)) rfl at_164 (pc' := 165) rfl) ?_
  refine OG.ow (OG.i2b C at_165 (pc' := 166) rfl) ?_
  refine OW.bastore C G32 (own_ib (n := 16) (by simp) r4) (Nat.le_trans (Nat.le_trans (Nat.le_trans (Nat.le_trans (Nat.le_trans (Nat.le_trans (Nat.le_trans (Nat.le_trans (Nat.le_trans (Nat.le_trans Z0 Eh2.1) (Nat.le_of_eq Wh3.size.symm)) (Nat.le_of_eq Wh5.size.symm)) (Nat.le_of_eq Wh7.size.symm)) Eh10.1) (Nat.le_of_eq Wh11.size.symm)) (Nat.le_of_eq Wh13.size.symm)) (Nat.le_of_eq Wh15.size.symm)) Eh18.1) gbt) at_166 (pc' := 167) rfl ?_
  intro h34 Wh34
  rw [(own_nb _)] at Wh34
  have G35 : OA Z h34 bt .byte ((((([(.int (0 : Int32)), (.int (0 : Int32)), (.int (0 : Int32)), (.int (0 : Int32)), (.int (0 : Int32)), (.int (0 : Int32)), (.int (0 : Int32)), (.int (0 : Int32)), (.int (0 : Int32)), (.int (0 : Int32)), (.int (0 : Int32)), (.int (0 : Int32)), (.int (0 : Int32)), (.int (0 : Int32)), (.int (0 : Int32)), (.int (0 : Int32))].set p0.toNatClampNeg (.int c0.toInt8.toInt32)).set (p0 + (1 : Int32)).toNatClampNeg (.int c1.toInt8.toInt32)).set (p0 + (2 : Int32)).toNatClampNeg (.int c2.toInt8.toInt32)).set p1.toNatClampNeg (.int c3.toInt8.toInt32)).set (p1 + (1 : Int32)).toNatClampNeg (.int c4.toInt8.toInt32)) := OA.same G32 Wh34
  refine OG.ow (OG.aload C at_167 rfl rfl (pc' := 169) rfl) ?_
  refine OG.ow (OG.iload C at_169 rfl (pc' := 171) rfl) ?_
  refine OG.ow (OG.iconst C at_171 (z := (2 : Int32)) rfl (pc' := 172) rfl) ?_
  refine OG.ow (OG.iadd C at_172 (pc' := 173) rfl) ?_
  refine OG.ow (OG.aload C at_173 rfl rfl (pc' := 175) rfl) ?_
  refine OG.ow (OG.iconst C at_175 (z := (2 : Int32)) rfl (pc' := 176) rfl) ?_
  have G36 := (OA.other G33 Wh34 (Nat.ne_of_lt (Nat.lt_of_lt_of_le (Nat.lt_of_lt_of_le ((show OA Z h10 a9 .char [(.int (0 : Int32)), (.int (0 : Int32)), (.int (0 : Int32))] from Aa9)).lt (Nat.le_trans (Nat.le_trans (Nat.le_trans (Nat.le_trans (Nat.le_refl _) (Nat.le_of_eq Wh11.size.symm)) (Nat.le_of_eq Wh13.size.symm)) (Nat.le_of_eq Wh15.size.symm)) Eh18.1)) gbt)))
  refine OG.ow (OG.caload C G36 (own_ib (n := 3) rfl (by decide)) rfl at_176 (pc' := 177) rfl) ?_
  refine OG.ow (OG.i2b C at_177 (pc' := 178) rfl) ?_
  refine OW.bastore C G35 (own_ib (n := 16) (by simp) r5) (Nat.le_trans (Nat.le_trans (Nat.le_trans (Nat.le_trans (Nat.le_trans (Nat.le_trans (Nat.le_trans (Nat.le_trans (Nat.le_trans (Nat.le_trans Z0 Eh2.1) (Nat.le_of_eq Wh3.size.symm)) (Nat.le_of_eq Wh5.size.symm)) (Nat.le_of_eq Wh7.size.symm)) Eh10.1) (Nat.le_of_eq Wh11.size.symm)) (Nat.le_of_eq Wh13.size.symm)) (Nat.le_of_eq Wh15.size.symm)) Eh18.1) gbt) at_178 (pc' := 179) rfl ?_
  intro h37 Wh37
  rw [(own_nb _)] at Wh37
  have G38 : OA Z h37 bt .byte (((((([(.int (0 : Int32)), (.int (0 : Int32)), (.int (0 : Int32)), (.int (0 : Int32)), (.int (0 : Int32)), (.int (0 : Int32)), (.int (0 : Int32)), (.int (0 : Int32)), (.int (0 : Int32)), (.int (0 : Int32)), (.int (0 : Int32)), (.int (0 : Int32)), (.int (0 : Int32)), (.int (0 : Int32)), (.int (0 : Int32)), (.int (0 : Int32))].set p0.toNatClampNeg (.int c0.toInt8.toInt32)).set (p0 + (1 : Int32)).toNatClampNeg (.int c1.toInt8.toInt32)).set (p0 + (2 : Int32)).toNatClampNeg (.int c2.toInt8.toInt32)).set p1.toNatClampNeg (.int c3.toInt8.toInt32)).set (p1 + (1 : Int32)).toNatClampNeg (.int c4.toInt8.toInt32)).set (p1 + (2 : Int32)).toNatClampNeg (.int c5.toInt8.toInt32)) := OA.same G35 Wh37
  obtain ⟨y0, y1, y2, y3⟩ := own_reads p0 p1 c0 c1 c2 c3 c4 c5 x2 hp0 hp1
  have hbl : (((((((([(.int (0 : Int32)), (.int (0 : Int32)), (.int (0 : Int32)), (.int (0 : Int32)), (.int (0 : Int32)), (.int (0 : Int32)), (.int (0 : Int32)), (.int (0 : Int32)), (.int (0 : Int32)), (.int (0 : Int32)), (.int (0 : Int32)), (.int (0 : Int32)), (.int (0 : Int32)), (.int (0 : Int32)), (.int (0 : Int32)), (.int (0 : Int32))] : List Value).set p0.toNatClampNeg (.int c0.toInt8.toInt32)).set (p0 + (1 : Int32)).toNatClampNeg (.int c1.toInt8.toInt32)).set (p0 + (2 : Int32)).toNatClampNeg (.int c2.toInt8.toInt32)).set p1.toNatClampNeg (.int c3.toInt8.toInt32)).set (p1 + (1 : Int32)).toNatClampNeg (.int c4.toInt8.toInt32)).set (p1 + (2 : Int32)).toNatClampNeg (.int c5.toInt8.toInt32))).length = 16 := by simp
  have z0 := own_ib hbl r0
  have z1 := own_ib hbl r1
  have z2 := own_ib hbl r3
  have z3 := own_ib hbl r4
  have GG : OA Z h37 bt .byte ((((((([(.int (0 : Int32)), (.int (0 : Int32)), (.int (0 : Int32)), (.int (0 : Int32)), (.int (0 : Int32)), (.int (0 : Int32)), (.int (0 : Int32)), (.int (0 : Int32)), (.int (0 : Int32)), (.int (0 : Int32)), (.int (0 : Int32)), (.int (0 : Int32)), (.int (0 : Int32)), (.int (0 : Int32)), (.int (0 : Int32)), (.int (0 : Int32))] : List Value).set p0.toNatClampNeg (.int c0.toInt8.toInt32)).set (p0 + (1 : Int32)).toNatClampNeg (.int c1.toInt8.toInt32)).set (p0 + (2 : Int32)).toNatClampNeg (.int c2.toInt8.toInt32)).set p1.toNatClampNeg (.int c3.toInt8.toInt32)).set (p1 + (1 : Int32)).toNatClampNeg (.int c4.toInt8.toInt32)).set (p1 + (2 : Int32)).toNatClampNeg (.int c5.toInt8.toInt32)) := G38
  generalize ((((((([(.int (0 : Int32)), (.int (0 : Int32)), (.int (0 : Int32)), (.int (0 : Int32)), (.int (0 : Int32)), (.int (0 : Int32)), (.int (0 : Int32)), (.int (0 : Int32)), (.int (0 : Int32)), (.int (0 : Int32)), (.int (0 : Int32)), (.int (0 : Int32)), (.int (0 : Int32)), (.int (0 : Int32)), (.int (0 : Int32)), (.int (0 : Int32))] : List Value).set p0.toNatClampNeg (.int c0.toInt8.toInt32)).set (p0 + (1 : Int32)).toNatClampNeg (.int c1.toInt8.toInt32)).set (p0 + (2 : Int32)).toNatClampNeg (.int c2.toInt8.toInt32)).set p1.toNatClampNeg (.int c3.toInt8.toInt32)).set (p1 + (1 : Int32)).toNatClampNeg (.int c4.toInt8.toInt32)).set (p1 + (2 : Int32)).toNatClampNeg (.int c5.toInt8.toInt32)) = bl at GG y0 y1 y2 y3 z0 z1 z2 z3
  clear hbl
  generalize hu0 : c0.toInt8.toInt32 = u0 at y0 y1 y2 y3
  generalize hu1 : c1.toInt8.toInt32 = u1 at y0 y1 y2 y3
  generalize hu3 : c3.toInt8.toInt32 = u3 at y0 y1 y2 y3
  generalize hu4 : c4.toInt8.toInt32 = u4 at y0 y1 y2 y3
  refine OG.ow (OG.iload C at_179 rfl (pc' := 181) rfl) ?_
  by_cases hc39 : ((x2.toUInt32 >>> ((5 : Int32) &&& 31).toUInt32).toInt32 &&& (1 : Int32)) = (0 : Int32)
  · refine OG.ow (OG.ifYes C at_181 (by rw [if_pos hc39]; rfl) (by decide) (pc' := 217) (by decide)) ?_
    refine OG.ow (OG.aload C at_217 rfl rfl (pc' := 219) rfl) ?_
    refine OG.ow (OG.iload C at_219 rfl (pc' := 221) rfl) ?_
    refine OG.ow (OG.iload C at_221 rfl (pc' := 223) rfl) ?_
    refine OG.ow (OG.iconst C at_223 (z := (3 : Int32)) rfl (pc' := 224) rfl) ?_
    refine OG.ow (OG.iadd C at_224 (pc' := 225) rfl) ?_
    refine OG.ow (OG.iconst C at_225 (z := (0 : Int32)) rfl (pc' := 226) rfl) ?_
    have G40 := (Exa.wr Wh37 (Exa.wr Wh34 (Exa.wr Wh31 (Exa.wr Wh28 (Exa.wr Wh25 (Exa.wr Wh22 G20))))))
    have G41 := (Fld.other Wh37 (Fld.other Wh34 (Fld.other Wh31 (Fld.other Wh28 (Fld.other Wh25 (Fld.other Wh22 F_fields_h19 (Or.inl (Nat.ne_of_lt (Nat.lt_of_lt_of_le (Nat.lt_of_lt_of_le (Aa17).lt (Nat.le_refl _)) gbt)))) (Or.inl (Nat.ne_of_lt (Nat.lt_of_lt_of_le (Nat.lt_of_lt_of_le (Aa17).lt (Nat.le_refl _)) gbt)))) (Or.inl (Nat.ne_of_lt (Nat.lt_of_lt_of_le (Nat.lt_of_lt_of_le (Aa17).lt (Nat.le_refl _)) gbt)))) (Or.inl (Nat.ne_of_lt (Nat.lt_of_lt_of_le (Nat.lt_of_lt_of_le (Aa17).lt (Nat.le_refl _)) gbt)))) (Or.inl (Nat.ne_of_lt (Nat.lt_of_lt_of_le (Nat.lt_of_lt_of_le (Aa17).lt (Nat.le_refl _)) gbt)))) (Or.inl (Nat.ne_of_lt (Nat.lt_of_lt_of_le (Nat.lt_of_lt_of_le (Aa17).lt (Nat.le_refl _)) gbt))))
    have G42 := (Fld.other Wh37 (Fld.other Wh34 (Fld.other Wh31 (Fld.other Wh28 (Fld.other Wh25 (Fld.other Wh22 F_tags_h19 (Or.inl (Nat.ne_of_lt (Nat.lt_of_lt_of_le (Nat.lt_of_lt_of_le (Aa17).lt (Nat.le_refl _)) gbt)))) (Or.inl (Nat.ne_of_lt (Nat.lt_of_lt_of_le (Nat.lt_of_lt_of_le (Aa17).lt (Nat.le_refl _)) gbt)))) (Or.inl (Nat.ne_of_lt (Nat.lt_of_lt_of_le (Nat.lt_of_lt_of_le (Aa17).lt (Nat.le_refl _)) gbt)))) (Or.inl (Nat.ne_of_lt (Nat.lt_of_lt_of_le (Nat.lt_of_lt_of_le (Aa17).lt (Nat.le_refl _)) gbt)))) (Or.inl (Nat.ne_of_lt (Nat.lt_of_lt_of_le (Nat.lt_of_lt_of_le (Aa17).lt (Nat.le_refl _)) gbt)))) (Or.inl (Nat.ne_of_lt (Nat.lt_of_lt_of_le (Nat.lt_of_lt_of_le (Aa17).lt (Nat.le_refl _)) gbt))))
    have G43 := (Fld.other Wh37 (Fld.other Wh34 (Fld.other Wh31 (Fld.other Wh28 (Fld.other Wh25 (Fld.other Wh22 F_starts_h19 (Or.inl (Nat.ne_of_lt (Nat.lt_of_lt_of_le (Nat.lt_of_lt_of_le (Aa17).lt (Nat.le_refl _)) gbt)))) (Or.inl (Nat.ne_of_lt (Nat.lt_of_lt_of_le (Nat.lt_of_lt_of_le (Aa17).lt (Nat.le_refl _)) gbt)))) (Or.inl (Nat.ne_of_lt (Nat.lt_of_lt_of_le (Nat.lt_of_lt_of_le (Aa17).lt (Nat.le_refl _)) gbt)))) (Or.inl (Nat.ne_of_lt (Nat.lt_of_lt_of_le (Nat.lt_of_lt_of_le (Aa17).lt (Nat.le_refl _)) gbt)))) (Or.inl (Nat.ne_of_lt (Nat.lt_of_lt_of_le (Nat.lt_of_lt_of_le (Aa17).lt (Nat.le_refl _)) gbt)))) (Or.inl (Nat.ne_of_lt (Nat.lt_of_lt_of_le (Nat.lt_of_lt_of_le (Aa17).lt (Nat.le_refl _)) gbt))))
    have G44 := (Fld.other Wh37 (Fld.other Wh34 (Fld.other Wh31 (Fld.other Wh28 (Fld.other Wh25 (Fld.other Wh22 F_lengths_h19 (Or.inl (Nat.ne_of_lt (Nat.lt_of_lt_of_le (Nat.lt_of_lt_of_le (Aa17).lt (Nat.le_refl _)) gbt)))) (Or.inl (Nat.ne_of_lt (Nat.lt_of_lt_of_le (Nat.lt_of_lt_of_le (Aa17).lt (Nat.le_refl _)) gbt)))) (Or.inl (Nat.ne_of_lt (Nat.lt_of_lt_of_le (Nat.lt_of_lt_of_le (Aa17).lt (Nat.le_refl _)) gbt)))) (Or.inl (Nat.ne_of_lt (Nat.lt_of_lt_of_le (Nat.lt_of_lt_of_le (Aa17).lt (Nat.le_refl _)) gbt)))) (Or.inl (Nat.ne_of_lt (Nat.lt_of_lt_of_le (Nat.lt_of_lt_of_le (Aa17).lt (Nat.le_refl _)) gbt)))) (Or.inl (Nat.ne_of_lt (Nat.lt_of_lt_of_le (Nat.lt_of_lt_of_le (Aa17).lt (Nat.le_refl _)) gbt))))
    have G45 := (Fld.other Wh37 (Fld.other Wh34 (Fld.other Wh31 (Fld.other Wh28 (Fld.other Wh25 (Fld.other Wh22 F_bytes_h19 (Or.inl (Nat.ne_of_lt (Nat.lt_of_lt_of_le (Nat.lt_of_lt_of_le (Aa17).lt (Nat.le_refl _)) gbt)))) (Or.inl (Nat.ne_of_lt (Nat.lt_of_lt_of_le (Nat.lt_of_lt_of_le (Aa17).lt (Nat.le_refl _)) gbt)))) (Or.inl (Nat.ne_of_lt (Nat.lt_of_lt_of_le (Nat.lt_of_lt_of_le (Aa17).lt (Nat.le_refl _)) gbt)))) (Or.inl (Nat.ne_of_lt (Nat.lt_of_lt_of_le (Nat.lt_of_lt_of_le (Aa17).lt (Nat.le_refl _)) gbt)))) (Or.inl (Nat.ne_of_lt (Nat.lt_of_lt_of_le (Nat.lt_of_lt_of_le (Aa17).lt (Nat.le_refl _)) gbt)))) (Or.inl (Nat.ne_of_lt (Nat.lt_of_lt_of_le (Nat.lt_of_lt_of_le (Aa17).lt (Nat.le_refl _)) gbt))))
    have G46 := (OA.other (OA.other (OA.other (OA.other (OA.other (OA.other Atg Wh22 d4) Wh25 d4) Wh28 d4) Wh31 d4) Wh34 d4) Wh37 d4)
    have G47 := (OA.other (OA.other (OA.other (OA.other (OA.other (OA.other Asr Wh22 d5) Wh25 d5) Wh28 d5) Wh31 d5) Wh34 d5) Wh37 d5)
    have G48 := (OA.other (OA.other (OA.other (OA.other (OA.other (OA.other Aln Wh22 d6) Wh25 d6) Wh28 d6) Wh31 d6) Wh34 d6) Wh37 d6)
    refine OW.callV C (w29 hw) (w30 hw) (w32 hw) (w31 hw) (w7 hw) (w33 hw) (by decide) G40 (bAd_0 hw a17 p0 (p0 + (3 : Int32)) (0 : Int32) (Nat.le_trans (Nat.le_trans (Nat.le_trans (Nat.le_trans (Nat.le_trans (Nat.le_trans (Nat.le_trans (Nat.le_trans (Nat.le_trans (Nat.le_trans (Nat.le_trans (Nat.le_trans (Nat.le_trans (Nat.le_trans (Nat.le_trans (Nat.le_trans Z0 Eh2.1) (Nat.le_of_eq Wh3.size.symm)) (Nat.le_of_eq Wh5.size.symm)) (Nat.le_of_eq Wh7.size.symm)) Eh10.1) (Nat.le_of_eq Wh11.size.symm)) (Nat.le_of_eq Wh13.size.symm)) (Nat.le_of_eq Wh15.size.symm)) Eh18.1) Kh19.1) (Nat.le_of_eq Wh22.size.symm)) (Nat.le_of_eq Wh25.size.symm)) (Nat.le_of_eq Wh28.size.symm)) (Nat.le_of_eq Wh31.size.symm)) (Nat.le_of_eq Wh34.size.symm)) (Nat.le_of_eq Wh37.size.symm)) (Nat.le_trans (Nat.le_trans (Nat.le_trans (Nat.le_trans (Nat.le_trans (Nat.le_trans (Nat.le_trans (Nat.le_trans (Nat.le_trans Z0 Eh2.1) (Nat.le_of_eq Wh3.size.symm)) (Nat.le_of_eq Wh5.size.symm)) (Nat.le_of_eq Wh7.size.symm)) Eh10.1) (Nat.le_of_eq Wh11.size.symm)) (Nat.le_of_eq Wh13.size.symm)) (Nat.le_of_eq Wh15.size.symm)) (Nat.le_of_eq ga17)) (Nat.le_trans (Nat.le_trans (Nat.le_trans (Nat.le_trans (Nat.le_trans (Nat.le_trans (Nat.le_trans (Nat.le_trans (Nat.le_trans (Nat.le_trans Z0 Eh2.1) (Nat.le_of_eq Wh3.size.symm)) (Nat.le_of_eq Wh5.size.symm)) (Nat.le_of_eq Wh7.size.symm)) Eh10.1) (Nat.le_of_eq Wh11.size.symm)) (Nat.le_of_eq Wh13.size.symm)) (Nat.le_of_eq Wh15.size.symm)) Eh18.1) gtg) (Nat.le_trans (Nat.le_trans (Nat.le_trans (Nat.le_trans (Nat.le_trans (Nat.le_trans (Nat.le_trans (Nat.le_trans (Nat.le_trans (Nat.le_trans Z0 Eh2.1) (Nat.le_of_eq Wh3.size.symm)) (Nat.le_of_eq Wh5.size.symm)) (Nat.le_of_eq Wh7.size.symm)) Eh10.1) (Nat.le_of_eq Wh11.size.symm)) (Nat.le_of_eq Wh13.size.symm)) (Nat.le_of_eq Wh15.size.symm)) Eh18.1) gsr) (Nat.le_trans (Nat.le_trans (Nat.le_trans (Nat.le_trans (Nat.le_trans (Nat.le_trans (Nat.le_trans (Nat.le_trans (Nat.le_trans (Nat.le_trans Z0 Eh2.1) (Nat.le_of_eq Wh3.size.symm)) (Nat.le_of_eq Wh5.size.symm)) (Nat.le_of_eq Wh7.size.symm)) Eh10.1) (Nat.le_of_eq Wh11.size.symm)) (Nat.le_of_eq Wh13.size.symm)) (Nat.le_of_eq Wh15.size.symm)) Eh18.1) gln) G40 G41 G42 G43 G44 G45 G46 G47 G48 (by simp) (by simp) (by simp) d1 d2 d3) at_226 pd_13 rfl (argsL := [(.int p0), (.int (p0 + (3 : Int32))), (.int (0 : Int32))]) (rest := []) rfl rfl (W := 0) rfl (by decide) (by decide) (by decide) (by decide) (pc' := 229) rfl ?_
    intro vh49 h49 qh49
    obtain ⟨rfl, Kh49, F0_h49, F1_h49, F2_h49, F3_h49, F4_h49, A0_h49, A1_h49, A2_h49⟩ := qh49
    refine OG.ow (OG.aload C at_229 rfl rfl (pc' := 231) rfl) ?_
    refine OG.ow (OG.iload C at_231 rfl (pc' := 233) rfl) ?_
    refine OG.ow (OG.iload C at_233 rfl (pc' := 235) rfl) ?_
    refine OG.ow (OG.iconst C at_235 (z := (3 : Int32)) rfl (pc' := 236) rfl) ?_
    refine OG.ow (OG.iadd C at_236 (pc' := 237) rfl) ?_
    refine OG.ow (OG.iconst C at_237 (z := (0 : Int32)) rfl (pc' := 238) rfl) ?_
    have G50 := (G40.keep Kh49)
    refine OW.callV C (w29 hw) (w30 hw) (w32 hw) (w31 hw) (w7 hw) (w33 hw) (by decide) G50 (bAd_1 hw a17 p1 (p1 + (3 : Int32)) (0 : Int32) (Nat.le_trans (Nat.le_trans (Nat.le_trans (Nat.le_trans (Nat.le_trans (Nat.le_trans (Nat.le_trans (Nat.le_trans (Nat.le_trans (Nat.le_trans (Nat.le_trans (Nat.le_trans (Nat.le_trans (Nat.le_trans (Nat.le_trans (Nat.le_trans (Nat.le_trans Z0 Eh2.1) (Nat.le_of_eq Wh3.size.symm)) (Nat.le_of_eq Wh5.size.symm)) (Nat.le_of_eq Wh7.size.symm)) Eh10.1) (Nat.le_of_eq Wh11.size.symm)) (Nat.le_of_eq Wh13.size.symm)) (Nat.le_of_eq Wh15.size.symm)) Eh18.1) Kh19.1) (Nat.le_of_eq Wh22.size.symm)) (Nat.le_of_eq Wh25.size.symm)) (Nat.le_of_eq Wh28.size.symm)) (Nat.le_of_eq Wh31.size.symm)) (Nat.le_of_eq Wh34.size.symm)) (Nat.le_of_eq Wh37.size.symm)) Kh49.1) (Nat.le_trans (Nat.le_trans (Nat.le_trans (Nat.le_trans (Nat.le_trans (Nat.le_trans (Nat.le_trans (Nat.le_trans (Nat.le_trans Z0 Eh2.1) (Nat.le_of_eq Wh3.size.symm)) (Nat.le_of_eq Wh5.size.symm)) (Nat.le_of_eq Wh7.size.symm)) Eh10.1) (Nat.le_of_eq Wh11.size.symm)) (Nat.le_of_eq Wh13.size.symm)) (Nat.le_of_eq Wh15.size.symm)) (Nat.le_of_eq ga17)) (Nat.le_trans (Nat.le_trans (Nat.le_trans (Nat.le_trans (Nat.le_trans (Nat.le_trans (Nat.le_trans (Nat.le_trans (Nat.le_trans (Nat.le_trans Z0 Eh2.1) (Nat.le_of_eq Wh3.size.symm)) (Nat.le_of_eq Wh5.size.symm)) (Nat.le_of_eq Wh7.size.symm)) Eh10.1) (Nat.le_of_eq Wh11.size.symm)) (Nat.le_of_eq Wh13.size.symm)) (Nat.le_of_eq Wh15.size.symm)) Eh18.1) gtg) (Nat.le_trans (Nat.le_trans (Nat.le_trans (Nat.le_trans (Nat.le_trans (Nat.le_trans (Nat.le_trans (Nat.le_trans (Nat.le_trans (Nat.le_trans Z0 Eh2.1) (Nat.le_of_eq Wh3.size.symm)) (Nat.le_of_eq Wh5.size.symm)) (Nat.le_of_eq Wh7.size.symm)) Eh10.1) (Nat.le_of_eq Wh11.size.symm)) (Nat.le_of_eq Wh13.size.symm)) (Nat.le_of_eq Wh15.size.symm)) Eh18.1) gsr) (Nat.le_trans (Nat.le_trans (Nat.le_trans (Nat.le_trans (Nat.le_trans (Nat.le_trans (Nat.le_trans (Nat.le_trans (Nat.le_trans (Nat.le_trans Z0 Eh2.1) (Nat.le_of_eq Wh3.size.symm)) (Nat.le_of_eq Wh5.size.symm)) (Nat.le_of_eq Wh7.size.symm)) Eh10.1) (Nat.le_of_eq Wh11.size.symm)) (Nat.le_of_eq Wh13.size.symm)) (Nat.le_of_eq Wh15.size.symm)) Eh18.1) gln) G50 F0_h49 F1_h49 F2_h49 F3_h49 F4_h49 A0_h49 A1_h49 A2_h49 (by simp) (by simp) (by simp) d1 d2 d3) at_238 pd_13 rfl (argsL := [(.int p1), (.int (p1 + (3 : Int32))), (.int (0 : Int32))]) (rest := []) rfl rfl (W := 0) rfl (by decide) (by decide) (by decide) (by decide) (pc' := 241) rfl ?_
    intro vh51 h51 qh51
    obtain ⟨rfl, Kh51, F0_h51, F1_h51, F2_h51, F3_h51, F4_h51, A0_h51, A1_h51, A2_h51⟩ := qh51
    refine OG.ow (OG.iconst C at_241 (z := (0 : Int32)) rfl (pc' := 242) rfl) ?_
    refine OG.ow (OG.istore C at_242 (ls' := #[.val (.int x0), .val (.int x1), .val (.int x2), .val (.ref a1), .val (.ref a9), .val (.int p0), .val (.int p1), .val (.int (if ((x2.toUInt32 >>> ((5 : Int32) &&& 31).toUInt32).toInt32 &&& (1 : Int32)) = (0 : Int32) then (0 : Int32) else (1 : Int32))), .val (.ref a17), .val (.ref bt), .val (.int (0 : Int32)), .unset, .unset, .unset]) rfl (pc' := 244) rfl) ?_
    refine OG.ow (OG.iconst C at_244 (z := (1 : Int32)) rfl (pc' := 245) rfl) ?_
    refine OG.ow (OG.istore C at_245 (ls' := #[.val (.int x0), .val (.int x1), .val (.int x2), .val (.ref a1), .val (.ref a9), .val (.int p0), .val (.int p1), .val (.int (if ((x2.toUInt32 >>> ((5 : Int32) &&& 31).toUInt32).toInt32 &&& (1 : Int32)) = (0 : Int32) then (0 : Int32) else (1 : Int32))), .val (.ref a17), .val (.ref bt), .val (.int (0 : Int32)), .val (.int (1 : Int32)), .unset, .unset]) rfl (pc' := 247) rfl) ?_
    refine OW.newO C (w36 hw) (w37 hw) (w38 hw) at_247 (by decide) (by decide) (pc' := 250) rfl ?_
    intro a52 h53 ga52 Eh53 Aa52 Da52
    refine OG.ow (OG.dup C at_250 rfl (pc' := 251) rfl) ?_
    refine OG.ow (OG.aloadN C at_251 rfl rfl (pc' := 252) rfl) ?_
    have G54 := ((((OA.other (OA.other (OA.other (OA.other G27 Wh28 (Nat.ne_of_lt (Nat.lt_of_lt_of_le (Nat.lt_of_lt_of_le ((show OA Z h2 a1 .char [(.int (0 : Int32)), (.int (0 : Int32)), (.int (0 : Int32))] from Aa1)).lt (Nat.le_trans (Nat.le_trans (Nat.le_trans (Nat.le_trans (Nat.le_trans (Nat.le_trans (Nat.le_trans (Nat.le_trans (Nat.le_refl _) (Nat.le_of_eq Wh3.size.symm)) (Nat.le_of_eq Wh5.size.symm)) (Nat.le_of_eq Wh7.size.symm)) Eh10.1) (Nat.le_of_eq Wh11.size.symm)) (Nat.le_of_eq Wh13.size.symm)) (Nat.le_of_eq Wh15.size.symm)) Eh18.1)) gbt))) Wh31 (Nat.ne_of_lt (Nat.lt_of_lt_of_le (Nat.lt_of_lt_of_le ((show OA Z h2 a1 .char [(.int (0 : Int32)), (.int (0 : Int32)), (.int (0 : Int32))] from Aa1)).lt (Nat.le_trans (Nat.le_trans (Nat.le_trans (Nat.le_trans (Nat.le_trans (Nat.le_trans (Nat.le_trans (Nat.le_trans (Nat.le_refl _) (Nat.le_of_eq Wh3.size.symm)) (Nat.le_of_eq Wh5.size.symm)) (Nat.le_of_eq Wh7.size.symm)) Eh10.1) (Nat.le_of_eq Wh11.size.symm)) (Nat.le_of_eq Wh13.size.symm)) (Nat.le_of_eq Wh15.size.symm)) Eh18.1)) gbt))) Wh34 (Nat.ne_of_lt (Nat.lt_of_lt_of_le (Nat.lt_of_lt_of_le ((show OA Z h2 a1 .char [(.int (0 : Int32)), (.int (0 : Int32)), (.int (0 : Int32))] from Aa1)).lt (Nat.le_trans (Nat.le_trans (Nat.le_trans (Nat.le_trans (Nat.le_trans (Nat.le_trans (Nat.le_trans (Nat.le_trans (Nat.le_refl _) (Nat.le_of_eq Wh3.size.symm)) (Nat.le_of_eq Wh5.size.symm)) (Nat.le_of_eq Wh7.size.symm)) Eh10.1) (Nat.le_of_eq Wh11.size.symm)) (Nat.le_of_eq Wh13.size.symm)) (Nat.le_of_eq Wh15.size.symm)) Eh18.1)) gbt))) Wh37 (Nat.ne_of_lt (Nat.lt_of_lt_of_le (Nat.lt_of_lt_of_le ((show OA Z h2 a1 .char [(.int (0 : Int32)), (.int (0 : Int32)), (.int (0 : Int32))] from Aa1)).lt (Nat.le_trans (Nat.le_trans (Nat.le_trans (Nat.le_trans (Nat.le_trans (Nat.le_trans (Nat.le_trans (Nat.le_trans (Nat.le_refl _) (Nat.le_of_eq Wh3.size.symm)) (Nat.le_of_eq Wh5.size.symm)) (Nat.le_of_eq Wh7.size.symm)) Eh10.1) (Nat.le_of_eq Wh11.size.symm)) (Nat.le_of_eq Wh13.size.symm)) (Nat.le_of_eq Wh15.size.symm)) Eh18.1)) gbt))).keep Kh49 (ninS (Nat.ne_of_lt (Nat.lt_of_lt_of_le (Nat.lt_of_lt_of_le ((show OA Z h2 a1 .char [(.int (0 : Int32)), (.int (0 : Int32)), (.int (0 : Int32))] from Aa1)).lt (Nat.le_trans (Nat.le_trans (Nat.le_trans (Nat.le_trans (Nat.le_trans (Nat.le_trans (Nat.le_trans (Nat.le_refl _) (Nat.le_of_eq Wh3.size.symm)) (Nat.le_of_eq Wh5.size.symm)) (Nat.le_of_eq Wh7.size.symm)) Eh10.1) (Nat.le_of_eq Wh11.size.symm)) (Nat.le_of_eq Wh13.size.symm)) (Nat.le_of_eq Wh15.size.symm))) (Nat.le_of_eq ga17))) (ninS (Nat.ne_of_lt (Nat.lt_of_lt_of_le (Nat.lt_of_lt_of_le ((show OA Z h2 a1 .char [(.int (0 : Int32)), (.int (0 : Int32)), (.int (0 : Int32))] from Aa1)).lt (Nat.le_trans (Nat.le_trans (Nat.le_trans (Nat.le_trans (Nat.le_trans (Nat.le_trans (Nat.le_trans (Nat.le_trans (Nat.le_refl _) (Nat.le_of_eq Wh3.size.symm)) (Nat.le_of_eq Wh5.size.symm)) (Nat.le_of_eq Wh7.size.symm)) Eh10.1) (Nat.le_of_eq Wh11.size.symm)) (Nat.le_of_eq Wh13.size.symm)) (Nat.le_of_eq Wh15.size.symm)) Eh18.1)) gtg)) (ninS (Nat.ne_of_lt (Nat.lt_of_lt_of_le (Nat.lt_of_lt_of_le ((show OA Z h2 a1 .char [(.int (0 : Int32)), (.int (0 : Int32)), (.int (0 : Int32))] from Aa1)).lt (Nat.le_trans (Nat.le_trans (Nat.le_trans (Nat.le_trans (Nat.le_trans (Nat.le_trans (Nat.le_trans (Nat.le_trans (Nat.le_refl _) (Nat.le_of_eq Wh3.size.symm)) (Nat.le_of_eq Wh5.size.symm)) (Nat.le_of_eq Wh7.size.symm)) Eh10.1) (Nat.le_of_eq Wh11.size.symm)) (Nat.le_of_eq Wh13.size.symm)) (Nat.le_of_eq Wh15.size.symm)) Eh18.1)) gsr)) (ninS (Nat.ne_of_lt (Nat.lt_of_lt_of_le (Nat.lt_of_lt_of_le ((show OA Z h2 a1 .char [(.int (0 : Int32)), (.int (0 : Int32)), (.int (0 : Int32))] from Aa1)).lt (Nat.le_trans (Nat.le_trans (Nat.le_trans (Nat.le_trans (Nat.le_trans (Nat.le_trans (Nat.le_trans (Nat.le_trans (Nat.le_refl _) (Nat.le_of_eq Wh3.size.symm)) (Nat.le_of_eq Wh5.size.symm)) (Nat.le_of_eq Wh7.size.symm)) Eh10.1) (Nat.le_of_eq Wh11.size.symm)) (Nat.le_of_eq Wh13.size.symm)) (Nat.le_of_eq Wh15.size.symm)) Eh18.1)) gln)) nin0))))).keep Kh51 (ninS (Nat.ne_of_lt (Nat.lt_of_lt_of_le (Nat.lt_of_lt_of_le ((show OA Z h2 a1 .char [(.int (0 : Int32)), (.int (0 : Int32)), (.int (0 : Int32))] from Aa1)).lt (Nat.le_trans (Nat.le_trans (Nat.le_trans (Nat.le_trans (Nat.le_trans (Nat.le_trans (Nat.le_trans (Nat.le_refl _) (Nat.le_of_eq Wh3.size.symm)) (Nat.le_of_eq Wh5.size.symm)) (Nat.le_of_eq Wh7.size.symm)) Eh10.1) (Nat.le_of_eq Wh11.size.symm)) (Nat.le_of_eq Wh13.size.symm)) (Nat.le_of_eq Wh15.size.symm))) (Nat.le_of_eq ga17))) (ninS (Nat.ne_of_lt (Nat.lt_of_lt_of_le (Nat.lt_of_lt_of_le ((show OA Z h2 a1 .char [(.int (0 : Int32)), (.int (0 : Int32)), (.int (0 : Int32))] from Aa1)).lt (Nat.le_trans (Nat.le_trans (Nat.le_trans (Nat.le_trans (Nat.le_trans (Nat.le_trans (Nat.le_trans (Nat.le_trans (Nat.le_refl _) (Nat.le_of_eq Wh3.size.symm)) (Nat.le_of_eq Wh5.size.symm)) (Nat.le_of_eq Wh7.size.symm)) Eh10.1) (Nat.le_of_eq Wh11.size.symm)) (Nat.le_of_eq Wh13.size.symm)) (Nat.le_of_eq Wh15.size.symm)) Eh18.1)) gtg)) (ninS (Nat.ne_of_lt (Nat.lt_of_lt_of_le (Nat.lt_of_lt_of_le ((show OA Z h2 a1 .char [(.int (0 : Int32)), (.int (0 : Int32)), (.int (0 : Int32))] from Aa1)).lt (Nat.le_trans (Nat.le_trans (Nat.le_trans (Nat.le_trans (Nat.le_trans (Nat.le_trans (Nat.le_trans (Nat.le_trans (Nat.le_refl _) (Nat.le_of_eq Wh3.size.symm)) (Nat.le_of_eq Wh5.size.symm)) (Nat.le_of_eq Wh7.size.symm)) Eh10.1) (Nat.le_of_eq Wh11.size.symm)) (Nat.le_of_eq Wh13.size.symm)) (Nat.le_of_eq Wh15.size.symm)) Eh18.1)) gsr)) (ninS (Nat.ne_of_lt (Nat.lt_of_lt_of_le (Nat.lt_of_lt_of_le ((show OA Z h2 a1 .char [(.int (0 : Int32)), (.int (0 : Int32)), (.int (0 : Int32))] from Aa1)).lt (Nat.le_trans (Nat.le_trans (Nat.le_trans (Nat.le_trans (Nat.le_trans (Nat.le_trans (Nat.le_trans (Nat.le_trans (Nat.le_refl _) (Nat.le_of_eq Wh3.size.symm)) (Nat.le_of_eq Wh5.size.symm)) (Nat.le_of_eq Wh7.size.symm)) Eh10.1) (Nat.le_of_eq Wh11.size.symm)) (Nat.le_of_eq Wh13.size.symm)) (Nat.le_of_eq Wh15.size.symm)) Eh18.1)) gln)) nin0))))).ext Eh53)
    have G55 := (Sta.ext Eh53 (Sta.kp (Sta.kp (Sta.wr Wh37 (Sta.wr Wh34 (Sta.wr Wh31 (Sta.wr Wh28 (Sta.wr Wh25 (Sta.wr Wh22 (Sta.kp (Sta.ext Eh18 (Sta.wr Wh15 (Sta.wr Wh13 (Sta.wr Wh11 (Sta.ext Eh10 (Sta.wr Wh7 (Sta.wr Wh5 (Sta.wr Wh3 (Sta.ext Eh2 S_cs))))))))) Kh19 (allS (Aa17).pl all0)))))))) Kh49 (allS (OPl.wr (OPl.wr (OPl.wr (OPl.wr (OPl.wr (OPl.wr (OPl.keep (Aa17).pl Kh19) Wh22) Wh25) Wh28) Wh31) Wh34) Wh37) (allS (OPl.wr (OPl.wr (OPl.wr (OPl.wr (OPl.wr (OPl.wr (Atg).pl Wh22) Wh25) Wh28) Wh31) Wh34) Wh37) (allS (OPl.wr (OPl.wr (OPl.wr (OPl.wr (OPl.wr (OPl.wr (Asr).pl Wh22) Wh25) Wh28) Wh31) Wh34) Wh37) (allS (OPl.wr (OPl.wr (OPl.wr (OPl.wr (OPl.wr (OPl.wr (Aln).pl Wh22) Wh25) Wh28) Wh31) Wh34) Wh37) all0))))) Kh51 (allS (OPl.keep (OPl.wr (OPl.wr (OPl.wr (OPl.wr (OPl.wr (OPl.wr (OPl.keep (Aa17).pl Kh19) Wh22) Wh25) Wh28) Wh31) Wh34) Wh37) Kh49) (allS (OPl.keep (OPl.wr (OPl.wr (OPl.wr (OPl.wr (OPl.wr (OPl.wr (Atg).pl Wh22) Wh25) Wh28) Wh31) Wh34) Wh37) Kh49) (allS (OPl.keep (OPl.wr (OPl.wr (OPl.wr (OPl.wr (OPl.wr (OPl.wr (Asr).pl Wh22) Wh25) Wh28) Wh31) Wh34) Wh37) Kh49) (allS (OPl.keep (OPl.wr (OPl.wr (OPl.wr (OPl.wr (OPl.wr (OPl.wr (Aln).pl Wh22) Wh25) Wh28) Wh31) Wh34) Wh37) Kh49) all0))))))
    refine OW.init C (w39 hw) (w40 hw) (w38 hw) (w41 hw) rfl (by decide) (bI1_3 hw a52 a1 (Nat.le_trans (Nat.le_trans (Nat.le_trans (Nat.le_trans (Nat.le_trans (Nat.le_trans (Nat.le_trans (Nat.le_trans (Nat.le_trans (Nat.le_trans (Nat.le_trans (Nat.le_trans (Nat.le_trans (Nat.le_trans (Nat.le_trans (Nat.le_trans (Nat.le_trans (Nat.le_trans (Nat.le_trans Z0 Eh2.1) (Nat.le_of_eq Wh3.size.symm)) (Nat.le_of_eq Wh5.size.symm)) (Nat.le_of_eq Wh7.size.symm)) Eh10.1) (Nat.le_of_eq Wh11.size.symm)) (Nat.le_of_eq Wh13.size.symm)) (Nat.le_of_eq Wh15.size.symm)) Eh18.1) Kh19.1) (Nat.le_of_eq Wh22.size.symm)) (Nat.le_of_eq Wh25.size.symm)) (Nat.le_of_eq Wh28.size.symm)) (Nat.le_of_eq Wh31.size.symm)) (Nat.le_of_eq Wh34.size.symm)) (Nat.le_of_eq Wh37.size.symm)) Kh49.1) Kh51.1) Eh53.1) (Nat.le_trans (Nat.le_trans (Nat.le_trans (Nat.le_trans (Nat.le_trans (Nat.le_trans (Nat.le_trans (Nat.le_trans (Nat.le_trans (Nat.le_trans (Nat.le_trans (Nat.le_trans (Nat.le_trans (Nat.le_trans (Nat.le_trans (Nat.le_trans (Nat.le_trans (Nat.le_trans (Nat.le_trans Z0 Eh2.1) (Nat.le_of_eq Wh3.size.symm)) (Nat.le_of_eq Wh5.size.symm)) (Nat.le_of_eq Wh7.size.symm)) Eh10.1) (Nat.le_of_eq Wh11.size.symm)) (Nat.le_of_eq Wh13.size.symm)) (Nat.le_of_eq Wh15.size.symm)) Eh18.1) Kh19.1) (Nat.le_of_eq Wh22.size.symm)) (Nat.le_of_eq Wh25.size.symm)) (Nat.le_of_eq Wh28.size.symm)) (Nat.le_of_eq Wh31.size.symm)) (Nat.le_of_eq Wh34.size.symm)) (Nat.le_of_eq Wh37.size.symm)) Kh49.1) Kh51.1) (Nat.le_of_eq ga52)) Aa52 (show Fld Z h53 a52 "java/lang/String" "value" "[B" .null from Da52 (Or.inr (w61 hw)) (ty := (.array .byte)) (by decide)) (show Fld Z h53 a52 "java/lang/String" "coder" "B" (.int (0 : Int32)) from Da52 (Or.inr (w59 hw)) (ty := .byte) (by decide)) G54 G55 hcs k0 k1 k2) at_252 pd_14 rfl (argsL := [(.ref a1)]) (rest := [(.ref a52)]) rfl rfl (W := 1) rfl (by decide) (by decide) (by decide) (by decide) (pc' := 255) rfl ?_
    intro vh56 h56 qh56
    obtain ⟨rfl, Kh56, a57, ga57, Vh56, Ch56, Aa57⟩ := qh56
    have G58 := (Aa52.keep Kh56)
    have G59 := (Sta.kp G55 Kh56 (allS (Aa52).pl all0))
    have G60 := (Sta.kp (Sta.ext Eh53 (Sta.kp (Sta.kp (Sta.wr Wh37 (Sta.wr Wh34 (Sta.wr Wh31 (Sta.wr Wh28 (Sta.wr Wh25 (Sta.wr Wh22 (Sta.kp (Sta.ext Eh18 (Sta.wr Wh15 (Sta.wr Wh13 (Sta.wr Wh11 (Sta.ext Eh10 (Sta.wr Wh7 (Sta.wr Wh5 (Sta.wr Wh3 (Sta.ext Eh2 S_fm))))))))) Kh19 (allS (Aa17).pl all0)))))))) Kh49 (allS (OPl.wr (OPl.wr (OPl.wr (OPl.wr (OPl.wr (OPl.wr (OPl.keep (Aa17).pl Kh19) Wh22) Wh25) Wh28) Wh31) Wh34) Wh37) (allS (OPl.wr (OPl.wr (OPl.wr (OPl.wr (OPl.wr (OPl.wr (Atg).pl Wh22) Wh25) Wh28) Wh31) Wh34) Wh37) (allS (OPl.wr (OPl.wr (OPl.wr (OPl.wr (OPl.wr (OPl.wr (Asr).pl Wh22) Wh25) Wh28) Wh31) Wh34) Wh37) (allS (OPl.wr (OPl.wr (OPl.wr (OPl.wr (OPl.wr (OPl.wr (Aln).pl Wh22) Wh25) Wh28) Wh31) Wh34) Wh37) all0))))) Kh51 (allS (OPl.keep (OPl.wr (OPl.wr (OPl.wr (OPl.wr (OPl.wr (OPl.wr (OPl.keep (Aa17).pl Kh19) Wh22) Wh25) Wh28) Wh31) Wh34) Wh37) Kh49) (allS (OPl.keep (OPl.wr (OPl.wr (OPl.wr (OPl.wr (OPl.wr (OPl.wr (Atg).pl Wh22) Wh25) Wh28) Wh31) Wh34) Wh37) Kh49) (allS (OPl.keep (OPl.wr (OPl.wr (OPl.wr (OPl.wr (OPl.wr (OPl.wr (Asr).pl Wh22) Wh25) Wh28) Wh31) Wh34) Wh37) Kh49) (allS (OPl.keep (OPl.wr (OPl.wr (OPl.wr (OPl.wr (OPl.wr (OPl.wr (Aln).pl Wh22) Wh25) Wh28) Wh31) Wh34) Wh37) Kh49) all0)))))) Kh56 (allS (Aa52).pl all0))
    refine OG.ow (OG.callS C (w62 hw) (w63 hw) (w64 hw) (w65 hw) (by decide) (b11 hw a52 (Nat.le_trans (Nat.le_trans (Nat.le_trans (Nat.le_trans (Nat.le_trans (Nat.le_trans (Nat.le_trans (Nat.le_trans (Nat.le_trans (Nat.le_trans (Nat.le_trans (Nat.le_trans (Nat.le_trans (Nat.le_trans (Nat.le_trans (Nat.le_trans (Nat.le_trans (Nat.le_trans (Nat.le_trans (Nat.le_trans Z0 Eh2.1) (Nat.le_of_eq Wh3.size.symm)) (Nat.le_of_eq Wh5.size.symm)) (Nat.le_of_eq Wh7.size.symm)) Eh10.1) (Nat.le_of_eq Wh11.size.symm)) (Nat.le_of_eq Wh13.size.symm)) (Nat.le_of_eq Wh15.size.symm)) Eh18.1) Kh19.1) (Nat.le_of_eq Wh22.size.symm)) (Nat.le_of_eq Wh25.size.symm)) (Nat.le_of_eq Wh28.size.symm)) (Nat.le_of_eq Wh31.size.symm)) (Nat.le_of_eq Wh34.size.symm)) (Nat.le_of_eq Wh37.size.symm)) Kh49.1) Kh51.1) Eh53.1) Kh56.1) G58 Vh56 Ch56 Aa57 G59 G60 hcs rfm) at_255 pd_15 rfl (argsL := [(.ref a52)]) (rest := []) rfl rfl (W := 0) rfl (by decide) (by decide) (pc' := 258) rfl) ?_
    refine OG.ow (OG.istore C at_258 (ls' := #[.val (.int x0), .val (.int x1), .val (.int x2), .val (.ref a1), .val (.ref a9), .val (.int p0), .val (.int p1), .val (.int (if ((x2.toUInt32 >>> ((5 : Int32) &&& 31).toUInt32).toInt32 &&& (1 : Int32)) = (0 : Int32) then (0 : Int32) else (1 : Int32))), .val (.ref a17), .val (.ref bt), .val (.int (0 : Int32)), .val (.int (1 : Int32)), .val (.int (if (c0.toInt8.toInt32 &&& (255 : Int32)) = (48 : Int32) then (if (c1.toInt8.toInt32 &&& (255 : Int32)) = (48 : Int32) then (1 : Int32) else (0 : Int32)) else (0 : Int32))), .unset]) rfl (pc' := 260) rfl) ?_
    refine OW.newO C (w36 hw) (w37 hw) (w38 hw) at_260 (by decide) (by decide) (pc' := 263) rfl ?_
    intro a61 h62 ga61 Eh62 Aa61 Da61
    refine OG.ow (OG.dup C at_263 rfl (pc' := 264) rfl) ?_
    refine OG.ow (OG.aload C at_264 rfl rfl (pc' := 266) rfl) ?_
    have G63 := ((((((OA.other G36 Wh37 (Nat.ne_of_lt (Nat.lt_of_lt_of_le (Nat.lt_of_lt_of_le ((show OA Z h10 a9 .char [(.int (0 : Int32)), (.int (0 : Int32)), (.int (0 : Int32))] from Aa9)).lt (Nat.le_trans (Nat.le_trans (Nat.le_trans (Nat.le_trans (Nat.le_refl _) (Nat.le_of_eq Wh11.size.symm)) (Nat.le_of_eq Wh13.size.symm)) (Nat.le_of_eq Wh15.size.symm)) Eh18.1)) gbt))).keep Kh49 (ninS (Nat.ne_of_lt (Nat.lt_of_lt_of_le (Nat.lt_of_lt_of_le ((show OA Z h10 a9 .char [(.int (0 : Int32)), (.int (0 : Int32)), (.int (0 : Int32))] from Aa9)).lt (Nat.le_trans (Nat.le_trans (Nat.le_trans (Nat.le_refl _) (Nat.le_of_eq Wh11.size.symm)) (Nat.le_of_eq Wh13.size.symm)) (Nat.le_of_eq Wh15.size.symm))) (Nat.le_of_eq ga17))) (ninS (Nat.ne_of_lt (Nat.lt_of_lt_of_le (Nat.lt_of_lt_of_le ((show OA Z h10 a9 .char [(.int (0 : Int32)), (.int (0 : Int32)), (.int (0 : Int32))] from Aa9)).lt (Nat.le_trans (Nat.le_trans (Nat.le_trans (Nat.le_trans (Nat.le_refl _) (Nat.le_of_eq Wh11.size.symm)) (Nat.le_of_eq Wh13.size.symm)) (Nat.le_of_eq Wh15.size.symm)) Eh18.1)) gtg)) (ninS (Nat.ne_of_lt (Nat.lt_of_lt_of_le (Nat.lt_of_lt_of_le ((show OA Z h10 a9 .char [(.int (0 : Int32)), (.int (0 : Int32)), (.int (0 : Int32))] from Aa9)).lt (Nat.le_trans (Nat.le_trans (Nat.le_trans (Nat.le_trans (Nat.le_refl _) (Nat.le_of_eq Wh11.size.symm)) (Nat.le_of_eq Wh13.size.symm)) (Nat.le_of_eq Wh15.size.symm)) Eh18.1)) gsr)) (ninS (Nat.ne_of_lt (Nat.lt_of_lt_of_le (Nat.lt_of_lt_of_le ((show OA Z h10 a9 .char [(.int (0 : Int32)), (.int (0 : Int32)), (.int (0 : Int32))] from Aa9)).lt (Nat.le_trans (Nat.le_trans (Nat.le_trans (Nat.le_trans (Nat.le_refl _) (Nat.le_of_eq Wh11.size.symm)) (Nat.le_of_eq Wh13.size.symm)) (Nat.le_of_eq Wh15.size.symm)) Eh18.1)) gln)) nin0))))).keep Kh51 (ninS (Nat.ne_of_lt (Nat.lt_of_lt_of_le (Nat.lt_of_lt_of_le ((show OA Z h10 a9 .char [(.int (0 : Int32)), (.int (0 : Int32)), (.int (0 : Int32))] from Aa9)).lt (Nat.le_trans (Nat.le_trans (Nat.le_trans (Nat.le_refl _) (Nat.le_of_eq Wh11.size.symm)) (Nat.le_of_eq Wh13.size.symm)) (Nat.le_of_eq Wh15.size.symm))) (Nat.le_of_eq ga17))) (ninS (Nat.ne_of_lt (Nat.lt_of_lt_of_le (Nat.lt_of_lt_of_le ((show OA Z h10 a9 .char [(.int (0 : Int32)), (.int (0 : Int32)), (.int (0 : Int32))] from Aa9)).lt (Nat.le_trans (Nat.le_trans (Nat.le_trans (Nat.le_trans (Nat.le_refl _) (Nat.le_of_eq Wh11.size.symm)) (Nat.le_of_eq Wh13.size.symm)) (Nat.le_of_eq Wh15.size.symm)) Eh18.1)) gtg)) (ninS (Nat.ne_of_lt (Nat.lt_of_lt_of_le (Nat.lt_of_lt_of_le ((show OA Z h10 a9 .char [(.int (0 : Int32)), (.int (0 : Int32)), (.int (0 : Int32))] from Aa9)).lt (Nat.le_trans (Nat.le_trans (Nat.le_trans (Nat.le_trans (Nat.le_refl _) (Nat.le_of_eq Wh11.size.symm)) (Nat.le_of_eq Wh13.size.symm)) (Nat.le_of_eq Wh15.size.symm)) Eh18.1)) gsr)) (ninS (Nat.ne_of_lt (Nat.lt_of_lt_of_le (Nat.lt_of_lt_of_le ((show OA Z h10 a9 .char [(.int (0 : Int32)), (.int (0 : Int32)), (.int (0 : Int32))] from Aa9)).lt (Nat.le_trans (Nat.le_trans (Nat.le_trans (Nat.le_trans (Nat.le_refl _) (Nat.le_of_eq Wh11.size.symm)) (Nat.le_of_eq Wh13.size.symm)) (Nat.le_of_eq Wh15.size.symm)) Eh18.1)) gln)) nin0))))).ext Eh53).keep Kh56 (ninS (Nat.ne_of_lt (Nat.lt_of_lt_of_le (Nat.lt_of_lt_of_le ((show OA Z h10 a9 .char [(.int (0 : Int32)), (.int (0 : Int32)), (.int (0 : Int32))] from Aa9)).lt (Nat.le_trans (Nat.le_trans (Nat.le_trans (Nat.le_trans (Nat.le_trans (Nat.le_trans (Nat.le_trans (Nat.le_trans (Nat.le_trans (Nat.le_trans (Nat.le_trans (Nat.le_trans (Nat.le_trans (Nat.le_refl _) (Nat.le_of_eq Wh11.size.symm)) (Nat.le_of_eq Wh13.size.symm)) (Nat.le_of_eq Wh15.size.symm)) Eh18.1) Kh19.1) (Nat.le_of_eq Wh22.size.symm)) (Nat.le_of_eq Wh25.size.symm)) (Nat.le_of_eq Wh28.size.symm)) (Nat.le_of_eq Wh31.size.symm)) (Nat.le_of_eq Wh34.size.symm)) (Nat.le_of_eq Wh37.size.symm)) Kh49.1) Kh51.1)) (Nat.le_of_eq ga52))) nin0)).ext Eh62)
    have G64 := (Sta.ext Eh62 G59)
    refine OW.init C (w39 hw) (w40 hw) (w38 hw) (w41 hw) rfl (by decide) (bI1_3 hw a61 a9 (Nat.le_trans (Nat.le_trans (Nat.le_trans (Nat.le_trans (Nat.le_trans (Nat.le_trans (Nat.le_trans (Nat.le_trans (Nat.le_trans (Nat.le_trans (Nat.le_trans (Nat.le_trans (Nat.le_trans (Nat.le_trans (Nat.le_trans (Nat.le_trans (Nat.le_trans (Nat.le_trans (Nat.le_trans (Nat.le_trans (Nat.le_trans Z0 Eh2.1) (Nat.le_of_eq Wh3.size.symm)) (Nat.le_of_eq Wh5.size.symm)) (Nat.le_of_eq Wh7.size.symm)) Eh10.1) (Nat.le_of_eq Wh11.size.symm)) (Nat.le_of_eq Wh13.size.symm)) (Nat.le_of_eq Wh15.size.symm)) Eh18.1) Kh19.1) (Nat.le_of_eq Wh22.size.symm)) (Nat.le_of_eq Wh25.size.symm)) (Nat.le_of_eq Wh28.size.symm)) (Nat.le_of_eq Wh31.size.symm)) (Nat.le_of_eq Wh34.size.symm)) (Nat.le_of_eq Wh37.size.symm)) Kh49.1) Kh51.1) Eh53.1) Kh56.1) Eh62.1) (Nat.le_trans (Nat.le_trans (Nat.le_trans (Nat.le_trans (Nat.le_trans (Nat.le_trans (Nat.le_trans (Nat.le_trans (Nat.le_trans (Nat.le_trans (Nat.le_trans (Nat.le_trans (Nat.le_trans (Nat.le_trans (Nat.le_trans (Nat.le_trans (Nat.le_trans (Nat.le_trans (Nat.le_trans (Nat.le_trans (Nat.le_trans Z0 Eh2.1) (Nat.le_of_eq Wh3.size.symm)) (Nat.le_of_eq Wh5.size.symm)) (Nat.le_of_eq Wh7.size.symm)) Eh10.1) (Nat.le_of_eq Wh11.size.symm)) (Nat.le_of_eq Wh13.size.symm)) (Nat.le_of_eq Wh15.size.symm)) Eh18.1) Kh19.1) (Nat.le_of_eq Wh22.size.symm)) (Nat.le_of_eq Wh25.size.symm)) (Nat.le_of_eq Wh28.size.symm)) (Nat.le_of_eq Wh31.size.symm)) (Nat.le_of_eq Wh34.size.symm)) (Nat.le_of_eq Wh37.size.symm)) Kh49.1) Kh51.1) Eh53.1) Kh56.1) (Nat.le_of_eq ga61)) Aa61 (show Fld Z h62 a61 "java/lang/String" "value" "[B" .null from Da61 (Or.inr (w61 hw)) (ty := (.array .byte)) (by decide)) (show Fld Z h62 a61 "java/lang/String" "coder" "B" (.int (0 : Int32)) from Da61 (Or.inr (w59 hw)) (ty := .byte) (by decide)) G63 G64 hcs k3 k4 k5) at_266 pd_14 rfl (argsL := [(.ref a9)]) (rest := [(.ref a61)]) rfl rfl (W := 1) rfl (by decide) (by decide) (by decide) (by decide) (pc' := 269) rfl ?_
    intro vh65 h65 qh65
    obtain ⟨rfl, Kh65, a66, ga66, Vh65, Ch65, Aa66⟩ := qh65
    have G67 := (Aa61.keep Kh65)
    have G68 := (Sta.kp G64 Kh65 (allS (Aa61).pl all0))
    have G69 := (Sta.kp (Sta.ext Eh62 G60) Kh65 (allS (Aa61).pl all0))
    refine OG.ow (OG.callS C (w62 hw) (w63 hw) (w64 hw) (w65 hw) (by decide) (b11 hw a61 (Nat.le_trans (Nat.le_trans (Nat.le_trans (Nat.le_trans (Nat.le_trans (Nat.le_trans (Nat.le_trans (Nat.le_trans (Nat.le_trans (Nat.le_trans (Nat.le_trans (Nat.le_trans (Nat.le_trans (Nat.le_trans (Nat.le_trans (Nat.le_trans (Nat.le_trans (Nat.le_trans (Nat.le_trans (Nat.le_trans (Nat.le_trans (Nat.le_trans Z0 Eh2.1) (Nat.le_of_eq Wh3.size.symm)) (Nat.le_of_eq Wh5.size.symm)) (Nat.le_of_eq Wh7.size.symm)) Eh10.1) (Nat.le_of_eq Wh11.size.symm)) (Nat.le_of_eq Wh13.size.symm)) (Nat.le_of_eq Wh15.size.symm)) Eh18.1) Kh19.1) (Nat.le_of_eq Wh22.size.symm)) (Nat.le_of_eq Wh25.size.symm)) (Nat.le_of_eq Wh28.size.symm)) (Nat.le_of_eq Wh31.size.symm)) (Nat.le_of_eq Wh34.size.symm)) (Nat.le_of_eq Wh37.size.symm)) Kh49.1) Kh51.1) Eh53.1) Kh56.1) Eh62.1) Kh65.1) G67 Vh65 Ch65 Aa66 G68 G69 hcs rfm) at_269 pd_15 rfl (argsL := [(.ref a61)]) (rest := []) rfl rfl (W := 0) rfl (by decide) (by decide) (pc' := 272) rfl) ?_
    refine OG.ow (OG.istore C at_272 (ls' := #[.val (.int x0), .val (.int x1), .val (.int x2), .val (.ref a1), .val (.ref a9), .val (.int p0), .val (.int p1), .val (.int (if ((x2.toUInt32 >>> ((5 : Int32) &&& 31).toUInt32).toInt32 &&& (1 : Int32)) = (0 : Int32) then (0 : Int32) else (1 : Int32))), .val (.ref a17), .val (.ref bt), .val (.int (0 : Int32)), .val (.int (1 : Int32)), .val (.int (if (c0.toInt8.toInt32 &&& (255 : Int32)) = (48 : Int32) then (if (c1.toInt8.toInt32 &&& (255 : Int32)) = (48 : Int32) then (1 : Int32) else (0 : Int32)) else (0 : Int32))), .val (.int (if (c3.toInt8.toInt32 &&& (255 : Int32)) = (48 : Int32) then (if (c4.toInt8.toInt32 &&& (255 : Int32)) = (48 : Int32) then (1 : Int32) else (0 : Int32)) else (0 : Int32)))]) rfl (pc' := 274) rfl) ?_
    refine OG.ow (OG.aload C at_274 rfl rfl (pc' := 276) rfl) ?_
    refine OG.ow (OG.iload C at_276 rfl (pc' := 278) rfl) ?_
    have G70 := ((((A0_h51.ext Eh53).keep Kh56 (ninS (Nat.ne_of_lt (Nat.lt_of_lt_of_le (Nat.lt_of_lt_of_le (Atg).lt (Nat.le_trans (Nat.le_trans (Nat.le_trans (Nat.le_trans (Nat.le_trans (Nat.le_trans (Nat.le_trans (Nat.le_trans (Nat.le_refl _) (Nat.le_of_eq Wh22.size.symm)) (Nat.le_of_eq Wh25.size.symm)) (Nat.le_of_eq Wh28.size.symm)) (Nat.le_of_eq Wh31.size.symm)) (Nat.le_of_eq Wh34.size.symm)) (Nat.le_of_eq Wh37.size.symm)) Kh49.1) Kh51.1)) (Nat.le_of_eq ga52))) nin0)).ext Eh62).keep Kh65 (ninS (Nat.ne_of_lt (Nat.lt_of_lt_of_le (Nat.lt_of_lt_of_le (Atg).lt (Nat.le_trans (Nat.le_trans (Nat.le_trans (Nat.le_trans (Nat.le_trans (Nat.le_trans (Nat.le_trans (Nat.le_trans (Nat.le_trans (Nat.le_trans (Nat.le_refl _) (Nat.le_of_eq Wh22.size.symm)) (Nat.le_of_eq Wh25.size.symm)) (Nat.le_of_eq Wh28.size.symm)) (Nat.le_of_eq Wh31.size.symm)) (Nat.le_of_eq Wh34.size.symm)) (Nat.le_of_eq Wh37.size.symm)) Kh49.1) Kh51.1) Eh53.1) Kh56.1)) (Nat.le_of_eq ga61))) nin0))
    have G71 := ((Fld.ext Eh62 ((Fld.ext Eh53 F1_h51).keep Kh56 (ninS (Nat.ne_of_lt (Nat.lt_of_lt_of_le (Nat.lt_of_lt_of_le (Aa17).lt (Nat.le_trans (Nat.le_trans (Nat.le_trans (Nat.le_trans (Nat.le_trans (Nat.le_trans (Nat.le_trans (Nat.le_trans (Nat.le_trans (Nat.le_refl _) Kh19.1) (Nat.le_of_eq Wh22.size.symm)) (Nat.le_of_eq Wh25.size.symm)) (Nat.le_of_eq Wh28.size.symm)) (Nat.le_of_eq Wh31.size.symm)) (Nat.le_of_eq Wh34.size.symm)) (Nat.le_of_eq Wh37.size.symm)) Kh49.1) Kh51.1)) (Nat.le_of_eq ga52))) nin0))).keep Kh65 (ninS (Nat.ne_of_lt (Nat.lt_of_lt_of_le (Nat.lt_of_lt_of_le (Aa17).lt (Nat.le_trans (Nat.le_trans (Nat.le_trans (Nat.le_trans (Nat.le_trans (Nat.le_trans (Nat.le_trans (Nat.le_trans (Nat.le_trans (Nat.le_trans (Nat.le_trans (Nat.le_refl _) Kh19.1) (Nat.le_of_eq Wh22.size.symm)) (Nat.le_of_eq Wh25.size.symm)) (Nat.le_of_eq Wh28.size.symm)) (Nat.le_of_eq Wh31.size.symm)) (Nat.le_of_eq Wh34.size.symm)) (Nat.le_of_eq Wh37.size.symm)) Kh49.1) Kh51.1) Eh53.1) Kh56.1)) (Nat.le_of_eq ga61))) nin0))
    have G72 := ((Fld.ext Eh62 ((Fld.ext Eh53 F4_h51).keep Kh56 (ninS (Nat.ne_of_lt (Nat.lt_of_lt_of_le (Nat.lt_of_lt_of_le (Aa17).lt (Nat.le_trans (Nat.le_trans (Nat.le_trans (Nat.le_trans (Nat.le_trans (Nat.le_trans (Nat.le_trans (Nat.le_trans (Nat.le_trans (Nat.le_refl _) Kh19.1) (Nat.le_of_eq Wh22.size.symm)) (Nat.le_of_eq Wh25.size.symm)) (Nat.le_of_eq Wh28.size.symm)) (Nat.le_of_eq Wh31.size.symm)) (Nat.le_of_eq Wh34.size.symm)) (Nat.le_of_eq Wh37.size.symm)) Kh49.1) Kh51.1)) (Nat.le_of_eq ga52))) nin0))).keep Kh65 (ninS (Nat.ne_of_lt (Nat.lt_of_lt_of_le (Nat.lt_of_lt_of_le (Aa17).lt (Nat.le_trans (Nat.le_trans (Nat.le_trans (Nat.le_trans (Nat.le_trans (Nat.le_trans (Nat.le_trans (Nat.le_trans (Nat.le_trans (Nat.le_trans (Nat.le_trans (Nat.le_refl _) Kh19.1) (Nat.le_of_eq Wh22.size.symm)) (Nat.le_of_eq Wh25.size.symm)) (Nat.le_of_eq Wh28.size.symm)) (Nat.le_of_eq Wh31.size.symm)) (Nat.le_of_eq Wh34.size.symm)) (Nat.le_of_eq Wh37.size.symm)) Kh49.1) Kh51.1) Eh53.1) Kh56.1)) (Nat.le_of_eq ga61))) nin0))
    have G73 := ((((((GG.keep Kh49 (ninS (Ne.symm (Nat.ne_of_lt (Nat.lt_of_lt_of_le (Nat.lt_of_lt_of_le (Aa17).lt (Nat.le_refl _)) gbt))) (ninS (Ne.symm d4) (ninS (Ne.symm d5) (ninS (Ne.symm d6) nin0))))).keep Kh51 (ninS (Ne.symm (Nat.ne_of_lt (Nat.lt_of_lt_of_le (Nat.lt_of_lt_of_le (Aa17).lt (Nat.le_refl _)) gbt))) (ninS (Ne.symm d4) (ninS (Ne.symm d5) (ninS (Ne.symm d6) nin0))))).ext Eh53).keep Kh56 (ninS (Nat.ne_of_lt (Nat.lt_of_lt_of_le (Nat.lt_of_lt_of_le (Abt).lt (Nat.le_trans (Nat.le_trans (Nat.le_trans (Nat.le_trans (Nat.le_trans (Nat.le_trans (Nat.le_trans (Nat.le_trans (Nat.le_refl _) (Nat.le_of_eq Wh22.size.symm)) (Nat.le_of_eq Wh25.size.symm)) (Nat.le_of_eq Wh28.size.symm)) (Nat.le_of_eq Wh31.size.symm)) (Nat.le_of_eq Wh34.size.symm)) (Nat.le_of_eq Wh37.size.symm)) Kh49.1) Kh51.1)) (Nat.le_of_eq ga52))) nin0)).ext Eh62).keep Kh65 (ninS (Nat.ne_of_lt (Nat.lt_of_lt_of_le (Nat.lt_of_lt_of_le (Abt).lt (Nat.le_trans (Nat.le_trans (Nat.le_trans (Nat.le_trans (Nat.le_trans (Nat.le_trans (Nat.le_trans (Nat.le_trans (Nat.le_trans (Nat.le_trans (Nat.le_refl _) (Nat.le_of_eq Wh22.size.symm)) (Nat.le_of_eq Wh25.size.symm)) (Nat.le_of_eq Wh28.size.symm)) (Nat.le_of_eq Wh31.size.symm)) (Nat.le_of_eq Wh34.size.symm)) (Nat.le_of_eq Wh37.size.symm)) Kh49.1) Kh51.1) Eh53.1) Kh56.1)) (Nat.le_of_eq ga61))) nin0))
    have G74 := ((Exa.ext Eh62 ((Exa.ext Eh53 (G50.keep Kh51)).keep Kh56)).keep Kh65)
    refine OG.ow (OG.callV C (w105 hw) (w106 hw) (w108 hw) (w107 hw) (w7 hw) (w109 hw) (by decide) G74 (bIC_0 hw a17 (Nat.le_trans (Nat.le_trans (Nat.le_trans (Nat.le_trans (Nat.le_trans (Nat.le_trans (Nat.le_trans (Nat.le_trans (Nat.le_trans (Nat.le_trans (Nat.le_trans (Nat.le_trans (Nat.le_trans (Nat.le_trans (Nat.le_trans (Nat.le_trans (Nat.le_trans (Nat.le_trans (Nat.le_trans (Nat.le_trans (Nat.le_trans (Nat.le_trans Z0 Eh2.1) (Nat.le_of_eq Wh3.size.symm)) (Nat.le_of_eq Wh5.size.symm)) (Nat.le_of_eq Wh7.size.symm)) Eh10.1) (Nat.le_of_eq Wh11.size.symm)) (Nat.le_of_eq Wh13.size.symm)) (Nat.le_of_eq Wh15.size.symm)) Eh18.1) Kh19.1) (Nat.le_of_eq Wh22.size.symm)) (Nat.le_of_eq Wh25.size.symm)) (Nat.le_of_eq Wh28.size.symm)) (Nat.le_of_eq Wh31.size.symm)) (Nat.le_of_eq Wh34.size.symm)) (Nat.le_of_eq Wh37.size.symm)) Kh49.1) Kh51.1) Eh53.1) Kh56.1) Eh62.1) Kh65.1) G71 G72 G70 G73 (own_64 (by simp) (by decide)) (by rfl) z0 y0 z1 y1) at_278 pd_16 rfl (argsL := [(.int (0 : Int32))]) (rest := []) rfl rfl (W := 0) rfl (by decide) (by decide) (pc' := 281) rfl) ?_
    refine OG.ow (OG.iload C at_281 rfl (pc' := 283) rfl) ?_
    refine OG.ow (OG.icmpNo C at_283 (teq (own_fin hu0 hu1)).2 (pc' := 286) rfl) ?_
    refine OG.ow (OG.aload C at_286 rfl rfl (pc' := 288) rfl) ?_
    refine OG.ow (OG.iload C at_288 rfl (pc' := 290) rfl) ?_
    refine OG.ow (OG.callV C (w105 hw) (w106 hw) (w108 hw) (w107 hw) (w7 hw) (w109 hw) (by decide) G74 (bIC_1 hw a17 (Nat.le_trans (Nat.le_trans (Nat.le_trans (Nat.le_trans (Nat.le_trans (Nat.le_trans (Nat.le_trans (Nat.le_trans (Nat.le_trans (Nat.le_trans (Nat.le_trans (Nat.le_trans (Nat.le_trans (Nat.le_trans (Nat.le_trans (Nat.le_trans (Nat.le_trans (Nat.le_trans (Nat.le_trans (Nat.le_trans (Nat.le_trans (Nat.le_trans Z0 Eh2.1) (Nat.le_of_eq Wh3.size.symm)) (Nat.le_of_eq Wh5.size.symm)) (Nat.le_of_eq Wh7.size.symm)) Eh10.1) (Nat.le_of_eq Wh11.size.symm)) (Nat.le_of_eq Wh13.size.symm)) (Nat.le_of_eq Wh15.size.symm)) Eh18.1) Kh19.1) (Nat.le_of_eq Wh22.size.symm)) (Nat.le_of_eq Wh25.size.symm)) (Nat.le_of_eq Wh28.size.symm)) (Nat.le_of_eq Wh31.size.symm)) (Nat.le_of_eq Wh34.size.symm)) (Nat.le_of_eq Wh37.size.symm)) Kh49.1) Kh51.1) Eh53.1) Kh56.1) Eh62.1) Kh65.1) G71 G72 G70 G73 (own_64 (by simp) (by decide)) (by rfl) z2 y2 z3 y3) at_290 pd_16 rfl (argsL := [(.int (1 : Int32))]) (rest := []) rfl rfl (W := 0) rfl (by decide) (by decide) (pc' := 293) rfl) ?_
    refine OG.ow (OG.iload C at_293 rfl (pc' := 295) rfl) ?_
    refine OG.ow (OG.icmpNo C at_295 (teq (own_fin hu3 hu4)).2 (pc' := 298) rfl) ?_
    refine OG.ow (OG.iconst C at_298 (z := (1 : Int32)) rfl (pc' := 299) rfl) ?_
    refine OG.ow (OG.goto C at_299 (by decide) (pc' := 303) (by decide)) ?_
    refine OW.retN (t := .boolean) C (by simp) at_303 (by decide) (by decide) ?_
    rfl
  · refine OG.ow (OG.ifNo C at_181 (by rw [if_neg hc39]; rfl) (pc' := 184) rfl) ?_
    refine OG.ow (OG.aload C at_184 rfl rfl (pc' := 186) rfl) ?_
    refine OG.ow (OG.iload C at_186 rfl (pc' := 188) rfl) ?_
    refine OG.ow (OG.iload C at_188 rfl (pc' := 190) rfl) ?_
    refine OG.ow (OG.iconst C at_190 (z := (3 : Int32)) rfl (pc' := 191) rfl) ?_
    refine OG.ow (OG.iadd C at_191 (pc' := 192) rfl) ?_
    refine OG.ow (OG.iconst C at_192 (z := (0 : Int32)) rfl (pc' := 193) rfl) ?_
    have G75 := (Exa.wr Wh37 (Exa.wr Wh34 (Exa.wr Wh31 (Exa.wr Wh28 (Exa.wr Wh25 (Exa.wr Wh22 G20))))))
    have G76 := (Fld.other Wh37 (Fld.other Wh34 (Fld.other Wh31 (Fld.other Wh28 (Fld.other Wh25 (Fld.other Wh22 F_fields_h19 (Or.inl (Nat.ne_of_lt (Nat.lt_of_lt_of_le (Nat.lt_of_lt_of_le (Aa17).lt (Nat.le_refl _)) gbt)))) (Or.inl (Nat.ne_of_lt (Nat.lt_of_lt_of_le (Nat.lt_of_lt_of_le (Aa17).lt (Nat.le_refl _)) gbt)))) (Or.inl (Nat.ne_of_lt (Nat.lt_of_lt_of_le (Nat.lt_of_lt_of_le (Aa17).lt (Nat.le_refl _)) gbt)))) (Or.inl (Nat.ne_of_lt (Nat.lt_of_lt_of_le (Nat.lt_of_lt_of_le (Aa17).lt (Nat.le_refl _)) gbt)))) (Or.inl (Nat.ne_of_lt (Nat.lt_of_lt_of_le (Nat.lt_of_lt_of_le (Aa17).lt (Nat.le_refl _)) gbt)))) (Or.inl (Nat.ne_of_lt (Nat.lt_of_lt_of_le (Nat.lt_of_lt_of_le (Aa17).lt (Nat.le_refl _)) gbt))))
    have G77 := (Fld.other Wh37 (Fld.other Wh34 (Fld.other Wh31 (Fld.other Wh28 (Fld.other Wh25 (Fld.other Wh22 F_tags_h19 (Or.inl (Nat.ne_of_lt (Nat.lt_of_lt_of_le (Nat.lt_of_lt_of_le (Aa17).lt (Nat.le_refl _)) gbt)))) (Or.inl (Nat.ne_of_lt (Nat.lt_of_lt_of_le (Nat.lt_of_lt_of_le (Aa17).lt (Nat.le_refl _)) gbt)))) (Or.inl (Nat.ne_of_lt (Nat.lt_of_lt_of_le (Nat.lt_of_lt_of_le (Aa17).lt (Nat.le_refl _)) gbt)))) (Or.inl (Nat.ne_of_lt (Nat.lt_of_lt_of_le (Nat.lt_of_lt_of_le (Aa17).lt (Nat.le_refl _)) gbt)))) (Or.inl (Nat.ne_of_lt (Nat.lt_of_lt_of_le (Nat.lt_of_lt_of_le (Aa17).lt (Nat.le_refl _)) gbt)))) (Or.inl (Nat.ne_of_lt (Nat.lt_of_lt_of_le (Nat.lt_of_lt_of_le (Aa17).lt (Nat.le_refl _)) gbt))))
    have G78 := (Fld.other Wh37 (Fld.other Wh34 (Fld.other Wh31 (Fld.other Wh28 (Fld.other Wh25 (Fld.other Wh22 F_starts_h19 (Or.inl (Nat.ne_of_lt (Nat.lt_of_lt_of_le (Nat.lt_of_lt_of_le (Aa17).lt (Nat.le_refl _)) gbt)))) (Or.inl (Nat.ne_of_lt (Nat.lt_of_lt_of_le (Nat.lt_of_lt_of_le (Aa17).lt (Nat.le_refl _)) gbt)))) (Or.inl (Nat.ne_of_lt (Nat.lt_of_lt_of_le (Nat.lt_of_lt_of_le (Aa17).lt (Nat.le_refl _)) gbt)))) (Or.inl (Nat.ne_of_lt (Nat.lt_of_lt_of_le (Nat.lt_of_lt_of_le (Aa17).lt (Nat.le_refl _)) gbt)))) (Or.inl (Nat.ne_of_lt (Nat.lt_of_lt_of_le (Nat.lt_of_lt_of_le (Aa17).lt (Nat.le_refl _)) gbt)))) (Or.inl (Nat.ne_of_lt (Nat.lt_of_lt_of_le (Nat.lt_of_lt_of_le (Aa17).lt (Nat.le_refl _)) gbt))))
    have G79 := (Fld.other Wh37 (Fld.other Wh34 (Fld.other Wh31 (Fld.other Wh28 (Fld.other Wh25 (Fld.other Wh22 F_lengths_h19 (Or.inl (Nat.ne_of_lt (Nat.lt_of_lt_of_le (Nat.lt_of_lt_of_le (Aa17).lt (Nat.le_refl _)) gbt)))) (Or.inl (Nat.ne_of_lt (Nat.lt_of_lt_of_le (Nat.lt_of_lt_of_le (Aa17).lt (Nat.le_refl _)) gbt)))) (Or.inl (Nat.ne_of_lt (Nat.lt_of_lt_of_le (Nat.lt_of_lt_of_le (Aa17).lt (Nat.le_refl _)) gbt)))) (Or.inl (Nat.ne_of_lt (Nat.lt_of_lt_of_le (Nat.lt_of_lt_of_le (Aa17).lt (Nat.le_refl _)) gbt)))) (Or.inl (Nat.ne_of_lt (Nat.lt_of_lt_of_le (Nat.lt_of_lt_of_le (Aa17).lt (Nat.le_refl _)) gbt)))) (Or.inl (Nat.ne_of_lt (Nat.lt_of_lt_of_le (Nat.lt_of_lt_of_le (Aa17).lt (Nat.le_refl _)) gbt))))
    have G80 := (Fld.other Wh37 (Fld.other Wh34 (Fld.other Wh31 (Fld.other Wh28 (Fld.other Wh25 (Fld.other Wh22 F_bytes_h19 (Or.inl (Nat.ne_of_lt (Nat.lt_of_lt_of_le (Nat.lt_of_lt_of_le (Aa17).lt (Nat.le_refl _)) gbt)))) (Or.inl (Nat.ne_of_lt (Nat.lt_of_lt_of_le (Nat.lt_of_lt_of_le (Aa17).lt (Nat.le_refl _)) gbt)))) (Or.inl (Nat.ne_of_lt (Nat.lt_of_lt_of_le (Nat.lt_of_lt_of_le (Aa17).lt (Nat.le_refl _)) gbt)))) (Or.inl (Nat.ne_of_lt (Nat.lt_of_lt_of_le (Nat.lt_of_lt_of_le (Aa17).lt (Nat.le_refl _)) gbt)))) (Or.inl (Nat.ne_of_lt (Nat.lt_of_lt_of_le (Nat.lt_of_lt_of_le (Aa17).lt (Nat.le_refl _)) gbt)))) (Or.inl (Nat.ne_of_lt (Nat.lt_of_lt_of_le (Nat.lt_of_lt_of_le (Aa17).lt (Nat.le_refl _)) gbt))))
    have G81 := (OA.other (OA.other (OA.other (OA.other (OA.other (OA.other Atg Wh22 d4) Wh25 d4) Wh28 d4) Wh31 d4) Wh34 d4) Wh37 d4)
    have G82 := (OA.other (OA.other (OA.other (OA.other (OA.other (OA.other Asr Wh22 d5) Wh25 d5) Wh28 d5) Wh31 d5) Wh34 d5) Wh37 d5)
    have G83 := (OA.other (OA.other (OA.other (OA.other (OA.other (OA.other Aln Wh22 d6) Wh25 d6) Wh28 d6) Wh31 d6) Wh34 d6) Wh37 d6)
    refine OW.callV C (w29 hw) (w30 hw) (w32 hw) (w31 hw) (w7 hw) (w33 hw) (by decide) G75 (bAd_0 hw a17 p1 (p1 + (3 : Int32)) (0 : Int32) (Nat.le_trans (Nat.le_trans (Nat.le_trans (Nat.le_trans (Nat.le_trans (Nat.le_trans (Nat.le_trans (Nat.le_trans (Nat.le_trans (Nat.le_trans (Nat.le_trans (Nat.le_trans (Nat.le_trans (Nat.le_trans (Nat.le_trans (Nat.le_trans Z0 Eh2.1) (Nat.le_of_eq Wh3.size.symm)) (Nat.le_of_eq Wh5.size.symm)) (Nat.le_of_eq Wh7.size.symm)) Eh10.1) (Nat.le_of_eq Wh11.size.symm)) (Nat.le_of_eq Wh13.size.symm)) (Nat.le_of_eq Wh15.size.symm)) Eh18.1) Kh19.1) (Nat.le_of_eq Wh22.size.symm)) (Nat.le_of_eq Wh25.size.symm)) (Nat.le_of_eq Wh28.size.symm)) (Nat.le_of_eq Wh31.size.symm)) (Nat.le_of_eq Wh34.size.symm)) (Nat.le_of_eq Wh37.size.symm)) (Nat.le_trans (Nat.le_trans (Nat.le_trans (Nat.le_trans (Nat.le_trans (Nat.le_trans (Nat.le_trans (Nat.le_trans (Nat.le_trans Z0 Eh2.1) (Nat.le_of_eq Wh3.size.symm)) (Nat.le_of_eq Wh5.size.symm)) (Nat.le_of_eq Wh7.size.symm)) Eh10.1) (Nat.le_of_eq Wh11.size.symm)) (Nat.le_of_eq Wh13.size.symm)) (Nat.le_of_eq Wh15.size.symm)) (Nat.le_of_eq ga17)) (Nat.le_trans (Nat.le_trans (Nat.le_trans (Nat.le_trans (Nat.le_trans (Nat.le_trans (Nat.le_trans (Nat.le_trans (Nat.le_trans (Nat.le_trans Z0 Eh2.1) (Nat.le_of_eq Wh3.size.symm)) (Nat.le_of_eq Wh5.size.symm)) (Nat.le_of_eq Wh7.size.symm)) Eh10.1) (Nat.le_of_eq Wh11.size.symm)) (Nat.le_of_eq Wh13.size.symm)) (Nat.le_of_eq Wh15.size.symm)) Eh18.1) gtg) (Nat.le_trans (Nat.le_trans (Nat.le_trans (Nat.le_trans (Nat.le_trans (Nat.le_trans (Nat.le_trans (Nat.le_trans (Nat.le_trans (Nat.le_trans Z0 Eh2.1) (Nat.le_of_eq Wh3.size.symm)) (Nat.le_of_eq Wh5.size.symm)) (Nat.le_of_eq Wh7.size.symm)) Eh10.1) (Nat.le_of_eq Wh11.size.symm)) (Nat.le_of_eq Wh13.size.symm)) (Nat.le_of_eq Wh15.size.symm)) Eh18.1) gsr) (Nat.le_trans (Nat.le_trans (Nat.le_trans (Nat.le_trans (Nat.le_trans (Nat.le_trans (Nat.le_trans (Nat.le_trans (Nat.le_trans (Nat.le_trans Z0 Eh2.1) (Nat.le_of_eq Wh3.size.symm)) (Nat.le_of_eq Wh5.size.symm)) (Nat.le_of_eq Wh7.size.symm)) Eh10.1) (Nat.le_of_eq Wh11.size.symm)) (Nat.le_of_eq Wh13.size.symm)) (Nat.le_of_eq Wh15.size.symm)) Eh18.1) gln) G75 G76 G77 G78 G79 G80 G81 G82 G83 (by simp) (by simp) (by simp) d1 d2 d3) at_193 pd_13 rfl (argsL := [(.int p1), (.int (p1 + (3 : Int32))), (.int (0 : Int32))]) (rest := []) rfl rfl (W := 0) rfl (by decide) (by decide) (by decide) (by decide) (pc' := 196) rfl ?_
    intro vh84 h84 qh84
    obtain ⟨rfl, Kh84, F0_h84, F1_h84, F2_h84, F3_h84, F4_h84, A0_h84, A1_h84, A2_h84⟩ := qh84
    refine OG.ow (OG.aload C at_196 rfl rfl (pc' := 198) rfl) ?_
    refine OG.ow (OG.iload C at_198 rfl (pc' := 200) rfl) ?_
    refine OG.ow (OG.iload C at_200 rfl (pc' := 202) rfl) ?_
    refine OG.ow (OG.iconst C at_202 (z := (3 : Int32)) rfl (pc' := 203) rfl) ?_
    refine OG.ow (OG.iadd C at_203 (pc' := 204) rfl) ?_
    refine OG.ow (OG.iconst C at_204 (z := (0 : Int32)) rfl (pc' := 205) rfl) ?_
    have G85 := (G75.keep Kh84)
    refine OW.callV C (w29 hw) (w30 hw) (w32 hw) (w31 hw) (w7 hw) (w33 hw) (by decide) G85 (bAd_1 hw a17 p0 (p0 + (3 : Int32)) (0 : Int32) (Nat.le_trans (Nat.le_trans (Nat.le_trans (Nat.le_trans (Nat.le_trans (Nat.le_trans (Nat.le_trans (Nat.le_trans (Nat.le_trans (Nat.le_trans (Nat.le_trans (Nat.le_trans (Nat.le_trans (Nat.le_trans (Nat.le_trans (Nat.le_trans (Nat.le_trans Z0 Eh2.1) (Nat.le_of_eq Wh3.size.symm)) (Nat.le_of_eq Wh5.size.symm)) (Nat.le_of_eq Wh7.size.symm)) Eh10.1) (Nat.le_of_eq Wh11.size.symm)) (Nat.le_of_eq Wh13.size.symm)) (Nat.le_of_eq Wh15.size.symm)) Eh18.1) Kh19.1) (Nat.le_of_eq Wh22.size.symm)) (Nat.le_of_eq Wh25.size.symm)) (Nat.le_of_eq Wh28.size.symm)) (Nat.le_of_eq Wh31.size.symm)) (Nat.le_of_eq Wh34.size.symm)) (Nat.le_of_eq Wh37.size.symm)) Kh84.1) (Nat.le_trans (Nat.le_trans (Nat.le_trans (Nat.le_trans (Nat.le_trans (Nat.le_trans (Nat.le_trans (Nat.le_trans (Nat.le_trans Z0 Eh2.1) (Nat.le_of_eq Wh3.size.symm)) (Nat.le_of_eq Wh5.size.symm)) (Nat.le_of_eq Wh7.size.symm)) Eh10.1) (Nat.le_of_eq Wh11.size.symm)) (Nat.le_of_eq Wh13.size.symm)) (Nat.le_of_eq Wh15.size.symm)) (Nat.le_of_eq ga17)) (Nat.le_trans (Nat.le_trans (Nat.le_trans (Nat.le_trans (Nat.le_trans (Nat.le_trans (Nat.le_trans (Nat.le_trans (Nat.le_trans (Nat.le_trans Z0 Eh2.1) (Nat.le_of_eq Wh3.size.symm)) (Nat.le_of_eq Wh5.size.symm)) (Nat.le_of_eq Wh7.size.symm)) Eh10.1) (Nat.le_of_eq Wh11.size.symm)) (Nat.le_of_eq Wh13.size.symm)) (Nat.le_of_eq Wh15.size.symm)) Eh18.1) gtg) (Nat.le_trans (Nat.le_trans (Nat.le_trans (Nat.le_trans (Nat.le_trans (Nat.le_trans (Nat.le_trans (Nat.le_trans (Nat.le_trans (Nat.le_trans Z0 Eh2.1) (Nat.le_of_eq Wh3.size.symm)) (Nat.le_of_eq Wh5.size.symm)) (Nat.le_of_eq Wh7.size.symm)) Eh10.1) (Nat.le_of_eq Wh11.size.symm)) (Nat.le_of_eq Wh13.size.symm)) (Nat.le_of_eq Wh15.size.symm)) Eh18.1) gsr) (Nat.le_trans (Nat.le_trans (Nat.le_trans (Nat.le_trans (Nat.le_trans (Nat.le_trans (Nat.le_trans (Nat.le_trans (Nat.le_trans (Nat.le_trans Z0 Eh2.1) (Nat.le_of_eq Wh3.size.symm)) (Nat.le_of_eq Wh5.size.symm)) (Nat.le_of_eq Wh7.size.symm)) Eh10.1) (Nat.le_of_eq Wh11.size.symm)) (Nat.le_of_eq Wh13.size.symm)) (Nat.le_of_eq Wh15.size.symm)) Eh18.1) gln) G85 F0_h84 F1_h84 F2_h84 F3_h84 F4_h84 A0_h84 A1_h84 A2_h84 (by simp) (by simp) (by simp) d1 d2 d3) at_205 pd_13 rfl (argsL := [(.int p0), (.int (p0 + (3 : Int32))), (.int (0 : Int32))]) (rest := []) rfl rfl (W := 0) rfl (by decide) (by decide) (by decide) (by decide) (pc' := 208) rfl ?_
    intro vh86 h86 qh86
    obtain ⟨rfl, Kh86, F0_h86, F1_h86, F2_h86, F3_h86, F4_h86, A0_h86, A1_h86, A2_h86⟩ := qh86
    refine OG.ow (OG.iconst C at_208 (z := (1 : Int32)) rfl (pc' := 209) rfl) ?_
    refine OG.ow (OG.istore C at_209 (ls' := #[.val (.int x0), .val (.int x1), .val (.int x2), .val (.ref a1), .val (.ref a9), .val (.int p0), .val (.int p1), .val (.int (if ((x2.toUInt32 >>> ((5 : Int32) &&& 31).toUInt32).toInt32 &&& (1 : Int32)) = (0 : Int32) then (0 : Int32) else (1 : Int32))), .val (.ref a17), .val (.ref bt), .val (.int (1 : Int32)), .unset, .unset, .unset]) rfl (pc' := 211) rfl) ?_
    refine OG.ow (OG.iconst C at_211 (z := (0 : Int32)) rfl (pc' := 212) rfl) ?_
    refine OG.ow (OG.istore C at_212 (ls' := #[.val (.int x0), .val (.int x1), .val (.int x2), .val (.ref a1), .val (.ref a9), .val (.int p0), .val (.int p1), .val (.int (if ((x2.toUInt32 >>> ((5 : Int32) &&& 31).toUInt32).toInt32 &&& (1 : Int32)) = (0 : Int32) then (0 : Int32) else (1 : Int32))), .val (.ref a17), .val (.ref bt), .val (.int (1 : Int32)), .val (.int (0 : Int32)), .unset, .unset]) rfl (pc' := 214) rfl) ?_
    refine OG.ow (OG.goto C at_214 (by decide) (pc' := 247) (by decide)) ?_
    refine OW.newO C (w36 hw) (w37 hw) (w38 hw) at_247 (by decide) (by decide) (pc' := 250) rfl ?_
    intro a87 h88 ga87 Eh88 Aa87 Da87
    refine OG.ow (OG.dup C at_250 rfl (pc' := 251) rfl) ?_
    refine OG.ow (OG.aloadN C at_251 rfl rfl (pc' := 252) rfl) ?_
    have G89 := ((((OA.other (OA.other (OA.other (OA.other G27 Wh28 (Nat.ne_of_lt (Nat.lt_of_lt_of_le (Nat.lt_of_lt_of_le ((show OA Z h2 a1 .char [(.int (0 : Int32)), (.int (0 : Int32)), (.int (0 : Int32))] from Aa1)).lt (Nat.le_trans (Nat.le_trans (Nat.le_trans (Nat.le_trans (Nat.le_trans (Nat.le_trans (Nat.le_trans (Nat.le_trans (Nat.le_refl _) (Nat.le_of_eq Wh3.size.symm)) (Nat.le_of_eq Wh5.size.symm)) (Nat.le_of_eq Wh7.size.symm)) Eh10.1) (Nat.le_of_eq Wh11.size.symm)) (Nat.le_of_eq Wh13.size.symm)) (Nat.le_of_eq Wh15.size.symm)) Eh18.1)) gbt))) Wh31 (Nat.ne_of_lt (Nat.lt_of_lt_of_le (Nat.lt_of_lt_of_le ((show OA Z h2 a1 .char [(.int (0 : Int32)), (.int (0 : Int32)), (.int (0 : Int32))] from Aa1)).lt (Nat.le_trans (Nat.le_trans (Nat.le_trans (Nat.le_trans (Nat.le_trans (Nat.le_trans (Nat.le_trans (Nat.le_trans (Nat.le_refl _) (Nat.le_of_eq Wh3.size.symm)) (Nat.le_of_eq Wh5.size.symm)) (Nat.le_of_eq Wh7.size.symm)) Eh10.1) (Nat.le_of_eq Wh11.size.symm)) (Nat.le_of_eq Wh13.size.symm)) (Nat.le_of_eq Wh15.size.symm)) Eh18.1)) gbt))) Wh34 (Nat.ne_of_lt (Nat.lt_of_lt_of_le (Nat.lt_of_lt_of_le ((show OA Z h2 a1 .char [(.int (0 : Int32)), (.int (0 : Int32)), (.int (0 : Int32))] from Aa1)).lt (Nat.le_trans (Nat.le_trans (Nat.le_trans (Nat.le_trans (Nat.le_trans (Nat.le_trans (Nat.le_trans (Nat.le_trans (Nat.le_refl _) (Nat.le_of_eq Wh3.size.symm)) (Nat.le_of_eq Wh5.size.symm)) (Nat.le_of_eq Wh7.size.symm)) Eh10.1) (Nat.le_of_eq Wh11.size.symm)) (Nat.le_of_eq Wh13.size.symm)) (Nat.le_of_eq Wh15.size.symm)) Eh18.1)) gbt))) Wh37 (Nat.ne_of_lt (Nat.lt_of_lt_of_le (Nat.lt_of_lt_of_le ((show OA Z h2 a1 .char [(.int (0 : Int32)), (.int (0 : Int32)), (.int (0 : Int32))] from Aa1)).lt (Nat.le_trans (Nat.le_trans (Nat.le_trans (Nat.le_trans (Nat.le_trans (Nat.le_trans (Nat.le_trans (Nat.le_trans (Nat.le_refl _) (Nat.le_of_eq Wh3.size.symm)) (Nat.le_of_eq Wh5.size.symm)) (Nat.le_of_eq Wh7.size.symm)) Eh10.1) (Nat.le_of_eq Wh11.size.symm)) (Nat.le_of_eq Wh13.size.symm)) (Nat.le_of_eq Wh15.size.symm)) Eh18.1)) gbt))).keep Kh84 (ninS (Nat.ne_of_lt (Nat.lt_of_lt_of_le (Nat.lt_of_lt_of_le ((show OA Z h2 a1 .char [(.int (0 : Int32)), (.int (0 : Int32)), (.int (0 : Int32))] from Aa1)).lt (Nat.le_trans (Nat.le_trans (Nat.le_trans (Nat.le_trans (Nat.le_trans (Nat.le_trans (Nat.le_trans (Nat.le_refl _) (Nat.le_of_eq Wh3.size.symm)) (Nat.le_of_eq Wh5.size.symm)) (Nat.le_of_eq Wh7.size.symm)) Eh10.1) (Nat.le_of_eq Wh11.size.symm)) (Nat.le_of_eq Wh13.size.symm)) (Nat.le_of_eq Wh15.size.symm))) (Nat.le_of_eq ga17))) (ninS (Nat.ne_of_lt (Nat.lt_of_lt_of_le (Nat.lt_of_lt_of_le ((show OA Z h2 a1 .char [(.int (0 : Int32)), (.int (0 : Int32)), (.int (0 : Int32))] from Aa1)).lt (Nat.le_trans (Nat.le_trans (Nat.le_trans (Nat.le_trans (Nat.le_trans (Nat.le_trans (Nat.le_trans (Nat.le_trans (Nat.le_refl _) (Nat.le_of_eq Wh3.size.symm)) (Nat.le_of_eq Wh5.size.symm)) (Nat.le_of_eq Wh7.size.symm)) Eh10.1) (Nat.le_of_eq Wh11.size.symm)) (Nat.le_of_eq Wh13.size.symm)) (Nat.le_of_eq Wh15.size.symm)) Eh18.1)) gtg)) (ninS (Nat.ne_of_lt (Nat.lt_of_lt_of_le (Nat.lt_of_lt_of_le ((show OA Z h2 a1 .char [(.int (0 : Int32)), (.int (0 : Int32)), (.int (0 : Int32))] from Aa1)).lt (Nat.le_trans (Nat.le_trans (Nat.le_trans (Nat.le_trans (Nat.le_trans (Nat.le_trans (Nat.le_trans (Nat.le_trans (Nat.le_refl _) (Nat.le_of_eq Wh3.size.symm)) (Nat.le_of_eq Wh5.size.symm)) (Nat.le_of_eq Wh7.size.symm)) Eh10.1) (Nat.le_of_eq Wh11.size.symm)) (Nat.le_of_eq Wh13.size.symm)) (Nat.le_of_eq Wh15.size.symm)) Eh18.1)) gsr)) (ninS (Nat.ne_of_lt (Nat.lt_of_lt_of_le (Nat.lt_of_lt_of_le ((show OA Z h2 a1 .char [(.int (0 : Int32)), (.int (0 : Int32)), (.int (0 : Int32))] from Aa1)).lt (Nat.le_trans (Nat.le_trans (Nat.le_trans (Nat.le_trans (Nat.le_trans (Nat.le_trans (Nat.le_trans (Nat.le_trans (Nat.le_refl _) (Nat.le_of_eq Wh3.size.symm)) (Nat.le_of_eq Wh5.size.symm)) (Nat.le_of_eq Wh7.size.symm)) Eh10.1) (Nat.le_of_eq Wh11.size.symm)) (Nat.le_of_eq Wh13.size.symm)) (Nat.le_of_eq Wh15.size.symm)) Eh18.1)) gln)) nin0))))).keep Kh86 (ninS (Nat.ne_of_lt (Nat.lt_of_lt_of_le (Nat.lt_of_lt_of_le ((show OA Z h2 a1 .char [(.int (0 : Int32)), (.int (0 : Int32)), (.int (0 : Int32))] from Aa1)).lt (Nat.le_trans (Nat.le_trans (Nat.le_trans (Nat.le_trans (Nat.le_trans (Nat.le_trans (Nat.le_trans (Nat.le_refl _) (Nat.le_of_eq Wh3.size.symm)) (Nat.le_of_eq Wh5.size.symm)) (Nat.le_of_eq Wh7.size.symm)) Eh10.1) (Nat.le_of_eq Wh11.size.symm)) (Nat.le_of_eq Wh13.size.symm)) (Nat.le_of_eq Wh15.size.symm))) (Nat.le_of_eq ga17))) (ninS (Nat.ne_of_lt (Nat.lt_of_lt_of_le (Nat.lt_of_lt_of_le ((show OA Z h2 a1 .char [(.int (0 : Int32)), (.int (0 : Int32)), (.int (0 : Int32))] from Aa1)).lt (Nat.le_trans (Nat.le_trans (Nat.le_trans (Nat.le_trans (Nat.le_trans (Nat.le_trans (Nat.le_trans (Nat.le_trans (Nat.le_refl _) (Nat.le_of_eq Wh3.size.symm)) (Nat.le_of_eq Wh5.size.symm)) (Nat.le_of_eq Wh7.size.symm)) Eh10.1) (Nat.le_of_eq Wh11.size.symm)) (Nat.le_of_eq Wh13.size.symm)) (Nat.le_of_eq Wh15.size.symm)) Eh18.1)) gtg)) (ninS (Nat.ne_of_lt (Nat.lt_of_lt_of_le (Nat.lt_of_lt_of_le ((show OA Z h2 a1 .char [(.int (0 : Int32)), (.int (0 : Int32)), (.int (0 : Int32))] from Aa1)).lt (Nat.le_trans (Nat.le_trans (Nat.le_trans (Nat.le_trans (Nat.le_trans (Nat.le_trans (Nat.le_trans (Nat.le_trans (Nat.le_refl _) (Nat.le_of_eq Wh3.size.symm)) (Nat.le_of_eq Wh5.size.symm)) (Nat.le_of_eq Wh7.size.symm)) Eh10.1) (Nat.le_of_eq Wh11.size.symm)) (Nat.le_of_eq Wh13.size.symm)) (Nat.le_of_eq Wh15.size.symm)) Eh18.1)) gsr)) (ninS (Nat.ne_of_lt (Nat.lt_of_lt_of_le (Nat.lt_of_lt_of_le ((show OA Z h2 a1 .char [(.int (0 : Int32)), (.int (0 : Int32)), (.int (0 : Int32))] from Aa1)).lt (Nat.le_trans (Nat.le_trans (Nat.le_trans (Nat.le_trans (Nat.le_trans (Nat.le_trans (Nat.le_trans (Nat.le_trans (Nat.le_refl _) (Nat.le_of_eq Wh3.size.symm)) (Nat.le_of_eq Wh5.size.symm)) (Nat.le_of_eq Wh7.size.symm)) Eh10.1) (Nat.le_of_eq Wh11.size.symm)) (Nat.le_of_eq Wh13.size.symm)) (Nat.le_of_eq Wh15.size.symm)) Eh18.1)) gln)) nin0))))).ext Eh88)
    have G90 := (Sta.ext Eh88 (Sta.kp (Sta.kp (Sta.wr Wh37 (Sta.wr Wh34 (Sta.wr Wh31 (Sta.wr Wh28 (Sta.wr Wh25 (Sta.wr Wh22 (Sta.kp (Sta.ext Eh18 (Sta.wr Wh15 (Sta.wr Wh13 (Sta.wr Wh11 (Sta.ext Eh10 (Sta.wr Wh7 (Sta.wr Wh5 (Sta.wr Wh3 (Sta.ext Eh2 S_cs))))))))) Kh19 (allS (Aa17).pl all0)))))))) Kh84 (allS (OPl.wr (OPl.wr (OPl.wr (OPl.wr (OPl.wr (OPl.wr (OPl.keep (Aa17).pl Kh19) Wh22) Wh25) Wh28) Wh31) Wh34) Wh37) (allS (OPl.wr (OPl.wr (OPl.wr (OPl.wr (OPl.wr (OPl.wr (Atg).pl Wh22) Wh25) Wh28) Wh31) Wh34) Wh37) (allS (OPl.wr (OPl.wr (OPl.wr (OPl.wr (OPl.wr (OPl.wr (Asr).pl Wh22) Wh25) Wh28) Wh31) Wh34) Wh37) (allS (OPl.wr (OPl.wr (OPl.wr (OPl.wr (OPl.wr (OPl.wr (Aln).pl Wh22) Wh25) Wh28) Wh31) Wh34) Wh37) all0))))) Kh86 (allS (OPl.keep (OPl.wr (OPl.wr (OPl.wr (OPl.wr (OPl.wr (OPl.wr (OPl.keep (Aa17).pl Kh19) Wh22) Wh25) Wh28) Wh31) Wh34) Wh37) Kh84) (allS (OPl.keep (OPl.wr (OPl.wr (OPl.wr (OPl.wr (OPl.wr (OPl.wr (Atg).pl Wh22) Wh25) Wh28) Wh31) Wh34) Wh37) Kh84) (allS (OPl.keep (OPl.wr (OPl.wr (OPl.wr (OPl.wr (OPl.wr (OPl.wr (Asr).pl Wh22) Wh25) Wh28) Wh31) Wh34) Wh37) Kh84) (allS (OPl.keep (OPl.wr (OPl.wr (OPl.wr (OPl.wr (OPl.wr (OPl.wr (Aln).pl Wh22) Wh25) Wh28) Wh31) Wh34) Wh37) Kh84) all0))))))
    refine OW.init C (w39 hw) (w40 hw) (w38 hw) (w41 hw) rfl (by decide) (bI1_3 hw a87 a1 (Nat.le_trans (Nat.le_trans (Nat.le_trans (Nat.le_trans (Nat.le_trans (Nat.le_trans (Nat.le_trans (Nat.le_trans (Nat.le_trans (Nat.le_trans (Nat.le_trans (Nat.le_trans (Nat.le_trans (Nat.le_trans (Nat.le_trans (Nat.le_trans (Nat.le_trans (Nat.le_trans (Nat.le_trans Z0 Eh2.1) (Nat.le_of_eq Wh3.size.symm)) (Nat.le_of_eq Wh5.size.symm)) (Nat.le_of_eq Wh7.size.symm)) Eh10.1) (Nat.le_of_eq Wh11.size.symm)) (Nat.le_of_eq Wh13.size.symm)) (Nat.le_of_eq Wh15.size.symm)) Eh18.1) Kh19.1) (Nat.le_of_eq Wh22.size.symm)) (Nat.le_of_eq Wh25.size.symm)) (Nat.le_of_eq Wh28.size.symm)) (Nat.le_of_eq Wh31.size.symm)) (Nat.le_of_eq Wh34.size.symm)) (Nat.le_of_eq Wh37.size.symm)) Kh84.1) Kh86.1) Eh88.1) (Nat.le_trans (Nat.le_trans (Nat.le_trans (Nat.le_trans (Nat.le_trans (Nat.le_trans (Nat.le_trans (Nat.le_trans (Nat.le_trans (Nat.le_trans (Nat.le_trans (Nat.le_trans (Nat.le_trans (Nat.le_trans (Nat.le_trans (Nat.le_trans (Nat.le_trans (Nat.le_trans (Nat.le_trans Z0 Eh2.1) (Nat.le_of_eq Wh3.size.symm)) (Nat.le_of_eq Wh5.size.symm)) (Nat.le_of_eq Wh7.size.symm)) Eh10.1) (Nat.le_of_eq Wh11.size.symm)) (Nat.le_of_eq Wh13.size.symm)) (Nat.le_of_eq Wh15.size.symm)) Eh18.1) Kh19.1) (Nat.le_of_eq Wh22.size.symm)) (Nat.le_of_eq Wh25.size.symm)) (Nat.le_of_eq Wh28.size.symm)) (Nat.le_of_eq Wh31.size.symm)) (Nat.le_of_eq Wh34.size.symm)) (Nat.le_of_eq Wh37.size.symm)) Kh84.1) Kh86.1) (Nat.le_of_eq ga87)) Aa87 (show Fld Z h88 a87 "java/lang/String" "value" "[B" .null from Da87 (Or.inr (w61 hw)) (ty := (.array .byte)) (by decide)) (show Fld Z h88 a87 "java/lang/String" "coder" "B" (.int (0 : Int32)) from Da87 (Or.inr (w59 hw)) (ty := .byte) (by decide)) G89 G90 hcs k0 k1 k2) at_252 pd_14 rfl (argsL := [(.ref a1)]) (rest := [(.ref a87)]) rfl rfl (W := 1) rfl (by decide) (by decide) (by decide) (by decide) (pc' := 255) rfl ?_
    intro vh91 h91 qh91
    obtain ⟨rfl, Kh91, a92, ga92, Vh91, Ch91, Aa92⟩ := qh91
    have G93 := (Aa87.keep Kh91)
    have G94 := (Sta.kp G90 Kh91 (allS (Aa87).pl all0))
    have G95 := (Sta.kp (Sta.ext Eh88 (Sta.kp (Sta.kp (Sta.wr Wh37 (Sta.wr Wh34 (Sta.wr Wh31 (Sta.wr Wh28 (Sta.wr Wh25 (Sta.wr Wh22 (Sta.kp (Sta.ext Eh18 (Sta.wr Wh15 (Sta.wr Wh13 (Sta.wr Wh11 (Sta.ext Eh10 (Sta.wr Wh7 (Sta.wr Wh5 (Sta.wr Wh3 (Sta.ext Eh2 S_fm))))))))) Kh19 (allS (Aa17).pl all0)))))))) Kh84 (allS (OPl.wr (OPl.wr (OPl.wr (OPl.wr (OPl.wr (OPl.wr (OPl.keep (Aa17).pl Kh19) Wh22) Wh25) Wh28) Wh31) Wh34) Wh37) (allS (OPl.wr (OPl.wr (OPl.wr (OPl.wr (OPl.wr (OPl.wr (Atg).pl Wh22) Wh25) Wh28) Wh31) Wh34) Wh37) (allS (OPl.wr (OPl.wr (OPl.wr (OPl.wr (OPl.wr (OPl.wr (Asr).pl Wh22) Wh25) Wh28) Wh31) Wh34) Wh37) (allS (OPl.wr (OPl.wr (OPl.wr (OPl.wr (OPl.wr (OPl.wr (Aln).pl Wh22) Wh25) Wh28) Wh31) Wh34) Wh37) all0))))) Kh86 (allS (OPl.keep (OPl.wr (OPl.wr (OPl.wr (OPl.wr (OPl.wr (OPl.wr (OPl.keep (Aa17).pl Kh19) Wh22) Wh25) Wh28) Wh31) Wh34) Wh37) Kh84) (allS (OPl.keep (OPl.wr (OPl.wr (OPl.wr (OPl.wr (OPl.wr (OPl.wr (Atg).pl Wh22) Wh25) Wh28) Wh31) Wh34) Wh37) Kh84) (allS (OPl.keep (OPl.wr (OPl.wr (OPl.wr (OPl.wr (OPl.wr (OPl.wr (Asr).pl Wh22) Wh25) Wh28) Wh31) Wh34) Wh37) Kh84) (allS (OPl.keep (OPl.wr (OPl.wr (OPl.wr (OPl.wr (OPl.wr (OPl.wr (Aln).pl Wh22) Wh25) Wh28) Wh31) Wh34) Wh37) Kh84) all0)))))) Kh91 (allS (Aa87).pl all0))
    refine OG.ow (OG.callS C (w62 hw) (w63 hw) (w64 hw) (w65 hw) (by decide) (b11 hw a87 (Nat.le_trans (Nat.le_trans (Nat.le_trans (Nat.le_trans (Nat.le_trans (Nat.le_trans (Nat.le_trans (Nat.le_trans (Nat.le_trans (Nat.le_trans (Nat.le_trans (Nat.le_trans (Nat.le_trans (Nat.le_trans (Nat.le_trans (Nat.le_trans (Nat.le_trans (Nat.le_trans (Nat.le_trans (Nat.le_trans Z0 Eh2.1) (Nat.le_of_eq Wh3.size.symm)) (Nat.le_of_eq Wh5.size.symm)) (Nat.le_of_eq Wh7.size.symm)) Eh10.1) (Nat.le_of_eq Wh11.size.symm)) (Nat.le_of_eq Wh13.size.symm)) (Nat.le_of_eq Wh15.size.symm)) Eh18.1) Kh19.1) (Nat.le_of_eq Wh22.size.symm)) (Nat.le_of_eq Wh25.size.symm)) (Nat.le_of_eq Wh28.size.symm)) (Nat.le_of_eq Wh31.size.symm)) (Nat.le_of_eq Wh34.size.symm)) (Nat.le_of_eq Wh37.size.symm)) Kh84.1) Kh86.1) Eh88.1) Kh91.1) G93 Vh91 Ch91 Aa92 G94 G95 hcs rfm) at_255 pd_15 rfl (argsL := [(.ref a87)]) (rest := []) rfl rfl (W := 0) rfl (by decide) (by decide) (pc' := 258) rfl) ?_
    refine OG.ow (OG.istore C at_258 (ls' := #[.val (.int x0), .val (.int x1), .val (.int x2), .val (.ref a1), .val (.ref a9), .val (.int p0), .val (.int p1), .val (.int (if ((x2.toUInt32 >>> ((5 : Int32) &&& 31).toUInt32).toInt32 &&& (1 : Int32)) = (0 : Int32) then (0 : Int32) else (1 : Int32))), .val (.ref a17), .val (.ref bt), .val (.int (1 : Int32)), .val (.int (0 : Int32)), .val (.int (if (c0.toInt8.toInt32 &&& (255 : Int32)) = (48 : Int32) then (if (c1.toInt8.toInt32 &&& (255 : Int32)) = (48 : Int32) then (1 : Int32) else (0 : Int32)) else (0 : Int32))), .unset]) rfl (pc' := 260) rfl) ?_
    refine OW.newO C (w36 hw) (w37 hw) (w38 hw) at_260 (by decide) (by decide) (pc' := 263) rfl ?_
    intro a96 h97 ga96 Eh97 Aa96 Da96
    refine OG.ow (OG.dup C at_263 rfl (pc' := 264) rfl) ?_
    refine OG.ow (OG.aload C at_264 rfl rfl (pc' := 266) rfl) ?_
    have G98 := ((((((OA.other G36 Wh37 (Nat.ne_of_lt (Nat.lt_of_lt_of_le (Nat.lt_of_lt_of_le ((show OA Z h10 a9 .char [(.int (0 : Int32)), (.int (0 : Int32)), (.int (0 : Int32))] from Aa9)).lt (Nat.le_trans (Nat.le_trans (Nat.le_trans (Nat.le_trans (Nat.le_refl _) (Nat.le_of_eq Wh11.size.symm)) (Nat.le_of_eq Wh13.size.symm)) (Nat.le_of_eq Wh15.size.symm)) Eh18.1)) gbt))).keep Kh84 (ninS (Nat.ne_of_lt (Nat.lt_of_lt_of_le (Nat.lt_of_lt_of_le ((show OA Z h10 a9 .char [(.int (0 : Int32)), (.int (0 : Int32)), (.int (0 : Int32))] from Aa9)).lt (Nat.le_trans (Nat.le_trans (Nat.le_trans (Nat.le_refl _) (Nat.le_of_eq Wh11.size.symm)) (Nat.le_of_eq Wh13.size.symm)) (Nat.le_of_eq Wh15.size.symm))) (Nat.le_of_eq ga17))) (ninS (Nat.ne_of_lt (Nat.lt_of_lt_of_le (Nat.lt_of_lt_of_le ((show OA Z h10 a9 .char [(.int (0 : Int32)), (.int (0 : Int32)), (.int (0 : Int32))] from Aa9)).lt (Nat.le_trans (Nat.le_trans (Nat.le_trans (Nat.le_trans (Nat.le_refl _) (Nat.le_of_eq Wh11.size.symm)) (Nat.le_of_eq Wh13.size.symm)) (Nat.le_of_eq Wh15.size.symm)) Eh18.1)) gtg)) (ninS (Nat.ne_of_lt (Nat.lt_of_lt_of_le (Nat.lt_of_lt_of_le ((show OA Z h10 a9 .char [(.int (0 : Int32)), (.int (0 : Int32)), (.int (0 : Int32))] from Aa9)).lt (Nat.le_trans (Nat.le_trans (Nat.le_trans (Nat.le_trans (Nat.le_refl _) (Nat.le_of_eq Wh11.size.symm)) (Nat.le_of_eq Wh13.size.symm)) (Nat.le_of_eq Wh15.size.symm)) Eh18.1)) gsr)) (ninS (Nat.ne_of_lt (Nat.lt_of_lt_of_le (Nat.lt_of_lt_of_le ((show OA Z h10 a9 .char [(.int (0 : Int32)), (.int (0 : Int32)), (.int (0 : Int32))] from Aa9)).lt (Nat.le_trans (Nat.le_trans (Nat.le_trans (Nat.le_trans (Nat.le_refl _) (Nat.le_of_eq Wh11.size.symm)) (Nat.le_of_eq Wh13.size.symm)) (Nat.le_of_eq Wh15.size.symm)) Eh18.1)) gln)) nin0))))).keep Kh86 (ninS (Nat.ne_of_lt (Nat.lt_of_lt_of_le (Nat.lt_of_lt_of_le ((show OA Z h10 a9 .char [(.int (0 : Int32)), (.int (0 : Int32)), (.int (0 : Int32))] from Aa9)).lt (Nat.le_trans (Nat.le_trans (Nat.le_trans (Nat.le_refl _) (Nat.le_of_eq Wh11.size.symm)) (Nat.le_of_eq Wh13.size.symm)) (Nat.le_of_eq Wh15.size.symm))) (Nat.le_of_eq ga17))) (ninS (Nat.ne_of_lt (Nat.lt_of_lt_of_le (Nat.lt_of_lt_of_le ((show OA Z h10 a9 .char [(.int (0 : Int32)), (.int (0 : Int32)), (.int (0 : Int32))] from Aa9)).lt (Nat.le_trans (Nat.le_trans (Nat.le_trans (Nat.le_trans (Nat.le_refl _) (Nat.le_of_eq Wh11.size.symm)) (Nat.le_of_eq Wh13.size.symm)) (Nat.le_of_eq Wh15.size.symm)) Eh18.1)) gtg)) (ninS (Nat.ne_of_lt (Nat.lt_of_lt_of_le (Nat.lt_of_lt_of_le ((show OA Z h10 a9 .char [(.int (0 : Int32)), (.int (0 : Int32)), (.int (0 : Int32))] from Aa9)).lt (Nat.le_trans (Nat.le_trans (Nat.le_trans (Nat.le_trans (Nat.le_refl _) (Nat.le_of_eq Wh11.size.symm)) (Nat.le_of_eq Wh13.size.symm)) (Nat.le_of_eq Wh15.size.symm)) Eh18.1)) gsr)) (ninS (Nat.ne_of_lt (Nat.lt_of_lt_of_le (Nat.lt_of_lt_of_le ((show OA Z h10 a9 .char [(.int (0 : Int32)), (.int (0 : Int32)), (.int (0 : Int32))] from Aa9)).lt (Nat.le_trans (Nat.le_trans (Nat.le_trans (Nat.le_trans (Nat.le_refl _) (Nat.le_of_eq Wh11.size.symm)) (Nat.le_of_eq Wh13.size.symm)) (Nat.le_of_eq Wh15.size.symm)) Eh18.1)) gln)) nin0))))).ext Eh88).keep Kh91 (ninS (Nat.ne_of_lt (Nat.lt_of_lt_of_le (Nat.lt_of_lt_of_le ((show OA Z h10 a9 .char [(.int (0 : Int32)), (.int (0 : Int32)), (.int (0 : Int32))] from Aa9)).lt (Nat.le_trans (Nat.le_trans (Nat.le_trans (Nat.le_trans (Nat.le_trans (Nat.le_trans (Nat.le_trans (Nat.le_trans (Nat.le_trans (Nat.le_trans (Nat.le_trans (Nat.le_trans (Nat.le_trans (Nat.le_refl _) (Nat.le_of_eq Wh11.size.symm)) (Nat.le_of_eq Wh13.size.symm)) (Nat.le_of_eq Wh15.size.symm)) Eh18.1) Kh19.1) (Nat.le_of_eq Wh22.size.symm)) (Nat.le_of_eq Wh25.size.symm)) (Nat.le_of_eq Wh28.size.symm)) (Nat.le_of_eq Wh31.size.symm)) (Nat.le_of_eq Wh34.size.symm)) (Nat.le_of_eq Wh37.size.symm)) Kh84.1) Kh86.1)) (Nat.le_of_eq ga87))) nin0)).ext Eh97)
    have G99 := (Sta.ext Eh97 G94)
    refine OW.init C (w39 hw) (w40 hw) (w38 hw) (w41 hw) rfl (by decide) (bI1_3 hw a96 a9 (Nat.le_trans (Nat.le_trans (Nat.le_trans (Nat.le_trans (Nat.le_trans (Nat.le_trans (Nat.le_trans (Nat.le_trans (Nat.le_trans (Nat.le_trans (Nat.le_trans (Nat.le_trans (Nat.le_trans (Nat.le_trans (Nat.le_trans (Nat.le_trans (Nat.le_trans (Nat.le_trans (Nat.le_trans (Nat.le_trans (Nat.le_trans Z0 Eh2.1) (Nat.le_of_eq Wh3.size.symm)) (Nat.le_of_eq Wh5.size.symm)) (Nat.le_of_eq Wh7.size.symm)) Eh10.1) (Nat.le_of_eq Wh11.size.symm)) (Nat.le_of_eq Wh13.size.symm)) (Nat.le_of_eq Wh15.size.symm)) Eh18.1) Kh19.1) (Nat.le_of_eq Wh22.size.symm)) (Nat.le_of_eq Wh25.size.symm)) (Nat.le_of_eq Wh28.size.symm)) (Nat.le_of_eq Wh31.size.symm)) (Nat.le_of_eq Wh34.size.symm)) (Nat.le_of_eq Wh37.size.symm)) Kh84.1) Kh86.1) Eh88.1) Kh91.1) Eh97.1) (Nat.le_trans (Nat.le_trans (Nat.le_trans (Nat.le_trans (Nat.le_trans (Nat.le_trans (Nat.le_trans (Nat.le_trans (Nat.le_trans (Nat.le_trans (Nat.le_trans (Nat.le_trans (Nat.le_trans (Nat.le_trans (Nat.le_trans (Nat.le_trans (Nat.le_trans (Nat.le_trans (Nat.le_trans (Nat.le_trans (Nat.le_trans Z0 Eh2.1) (Nat.le_of_eq Wh3.size.symm)) (Nat.le_of_eq Wh5.size.symm)) (Nat.le_of_eq Wh7.size.symm)) Eh10.1) (Nat.le_of_eq Wh11.size.symm)) (Nat.le_of_eq Wh13.size.symm)) (Nat.le_of_eq Wh15.size.symm)) Eh18.1) Kh19.1) (Nat.le_of_eq Wh22.size.symm)) (Nat.le_of_eq Wh25.size.symm)) (Nat.le_of_eq Wh28.size.symm)) (Nat.le_of_eq Wh31.size.symm)) (Nat.le_of_eq Wh34.size.symm)) (Nat.le_of_eq Wh37.size.symm)) Kh84.1) Kh86.1) Eh88.1) Kh91.1) (Nat.le_of_eq ga96)) Aa96 (show Fld Z h97 a96 "java/lang/String" "value" "[B" .null from Da96 (Or.inr (w61 hw)) (ty := (.array .byte)) (by decide)) (show Fld Z h97 a96 "java/lang/String" "coder" "B" (.int (0 : Int32)) from Da96 (Or.inr (w59 hw)) (ty := .byte) (by decide)) G98 G99 hcs k3 k4 k5) at_266 pd_14 rfl (argsL := [(.ref a9)]) (rest := [(.ref a96)]) rfl rfl (W := 1) rfl (by decide) (by decide) (by decide) (by decide) (pc' := 269) rfl ?_
    intro vh100 h100 qh100
    obtain ⟨rfl, Kh100, a101, ga101, Vh100, Ch100, Aa101⟩ := qh100
    have G102 := (Aa96.keep Kh100)
    have G103 := (Sta.kp G99 Kh100 (allS (Aa96).pl all0))
    have G104 := (Sta.kp (Sta.ext Eh97 G95) Kh100 (allS (Aa96).pl all0))
    refine OG.ow (OG.callS C (w62 hw) (w63 hw) (w64 hw) (w65 hw) (by decide) (b11 hw a96 (Nat.le_trans (Nat.le_trans (Nat.le_trans (Nat.le_trans (Nat.le_trans (Nat.le_trans (Nat.le_trans (Nat.le_trans (Nat.le_trans (Nat.le_trans (Nat.le_trans (Nat.le_trans (Nat.le_trans (Nat.le_trans (Nat.le_trans (Nat.le_trans (Nat.le_trans (Nat.le_trans (Nat.le_trans (Nat.le_trans (Nat.le_trans (Nat.le_trans Z0 Eh2.1) (Nat.le_of_eq Wh3.size.symm)) (Nat.le_of_eq Wh5.size.symm)) (Nat.le_of_eq Wh7.size.symm)) Eh10.1) (Nat.le_of_eq Wh11.size.symm)) (Nat.le_of_eq Wh13.size.symm)) (Nat.le_of_eq Wh15.size.symm)) Eh18.1) Kh19.1) (Nat.le_of_eq Wh22.size.symm)) (Nat.le_of_eq Wh25.size.symm)) (Nat.le_of_eq Wh28.size.symm)) (Nat.le_of_eq Wh31.size.symm)) (Nat.le_of_eq Wh34.size.symm)) (Nat.le_of_eq Wh37.size.symm)) Kh84.1) Kh86.1) Eh88.1) Kh91.1) Eh97.1) Kh100.1) G102 Vh100 Ch100 Aa101 G103 G104 hcs rfm) at_269 pd_15 rfl (argsL := [(.ref a96)]) (rest := []) rfl rfl (W := 0) rfl (by decide) (by decide) (pc' := 272) rfl) ?_
    refine OG.ow (OG.istore C at_272 (ls' := #[.val (.int x0), .val (.int x1), .val (.int x2), .val (.ref a1), .val (.ref a9), .val (.int p0), .val (.int p1), .val (.int (if ((x2.toUInt32 >>> ((5 : Int32) &&& 31).toUInt32).toInt32 &&& (1 : Int32)) = (0 : Int32) then (0 : Int32) else (1 : Int32))), .val (.ref a17), .val (.ref bt), .val (.int (1 : Int32)), .val (.int (0 : Int32)), .val (.int (if (c0.toInt8.toInt32 &&& (255 : Int32)) = (48 : Int32) then (if (c1.toInt8.toInt32 &&& (255 : Int32)) = (48 : Int32) then (1 : Int32) else (0 : Int32)) else (0 : Int32))), .val (.int (if (c3.toInt8.toInt32 &&& (255 : Int32)) = (48 : Int32) then (if (c4.toInt8.toInt32 &&& (255 : Int32)) = (48 : Int32) then (1 : Int32) else (0 : Int32)) else (0 : Int32)))]) rfl (pc' := 274) rfl) ?_
    refine OG.ow (OG.aload C at_274 rfl rfl (pc' := 276) rfl) ?_
    refine OG.ow (OG.iload C at_276 rfl (pc' := 278) rfl) ?_
    have G105 := ((((A0_h86.ext Eh88).keep Kh91 (ninS (Nat.ne_of_lt (Nat.lt_of_lt_of_le (Nat.lt_of_lt_of_le (Atg).lt (Nat.le_trans (Nat.le_trans (Nat.le_trans (Nat.le_trans (Nat.le_trans (Nat.le_trans (Nat.le_trans (Nat.le_trans (Nat.le_refl _) (Nat.le_of_eq Wh22.size.symm)) (Nat.le_of_eq Wh25.size.symm)) (Nat.le_of_eq Wh28.size.symm)) (Nat.le_of_eq Wh31.size.symm)) (Nat.le_of_eq Wh34.size.symm)) (Nat.le_of_eq Wh37.size.symm)) Kh84.1) Kh86.1)) (Nat.le_of_eq ga87))) nin0)).ext Eh97).keep Kh100 (ninS (Nat.ne_of_lt (Nat.lt_of_lt_of_le (Nat.lt_of_lt_of_le (Atg).lt (Nat.le_trans (Nat.le_trans (Nat.le_trans (Nat.le_trans (Nat.le_trans (Nat.le_trans (Nat.le_trans (Nat.le_trans (Nat.le_trans (Nat.le_trans (Nat.le_refl _) (Nat.le_of_eq Wh22.size.symm)) (Nat.le_of_eq Wh25.size.symm)) (Nat.le_of_eq Wh28.size.symm)) (Nat.le_of_eq Wh31.size.symm)) (Nat.le_of_eq Wh34.size.symm)) (Nat.le_of_eq Wh37.size.symm)) Kh84.1) Kh86.1) Eh88.1) Kh91.1)) (Nat.le_of_eq ga96))) nin0))
    have G106 := ((Fld.ext Eh97 ((Fld.ext Eh88 F1_h86).keep Kh91 (ninS (Nat.ne_of_lt (Nat.lt_of_lt_of_le (Nat.lt_of_lt_of_le (Aa17).lt (Nat.le_trans (Nat.le_trans (Nat.le_trans (Nat.le_trans (Nat.le_trans (Nat.le_trans (Nat.le_trans (Nat.le_trans (Nat.le_trans (Nat.le_refl _) Kh19.1) (Nat.le_of_eq Wh22.size.symm)) (Nat.le_of_eq Wh25.size.symm)) (Nat.le_of_eq Wh28.size.symm)) (Nat.le_of_eq Wh31.size.symm)) (Nat.le_of_eq Wh34.size.symm)) (Nat.le_of_eq Wh37.size.symm)) Kh84.1) Kh86.1)) (Nat.le_of_eq ga87))) nin0))).keep Kh100 (ninS (Nat.ne_of_lt (Nat.lt_of_lt_of_le (Nat.lt_of_lt_of_le (Aa17).lt (Nat.le_trans (Nat.le_trans (Nat.le_trans (Nat.le_trans (Nat.le_trans (Nat.le_trans (Nat.le_trans (Nat.le_trans (Nat.le_trans (Nat.le_trans (Nat.le_trans (Nat.le_refl _) Kh19.1) (Nat.le_of_eq Wh22.size.symm)) (Nat.le_of_eq Wh25.size.symm)) (Nat.le_of_eq Wh28.size.symm)) (Nat.le_of_eq Wh31.size.symm)) (Nat.le_of_eq Wh34.size.symm)) (Nat.le_of_eq Wh37.size.symm)) Kh84.1) Kh86.1) Eh88.1) Kh91.1)) (Nat.le_of_eq ga96))) nin0))
    have G107 := ((Fld.ext Eh97 ((Fld.ext Eh88 F4_h86).keep Kh91 (ninS (Nat.ne_of_lt (Nat.lt_of_lt_of_le (Nat.lt_of_lt_of_le (Aa17).lt (Nat.le_trans (Nat.le_trans (Nat.le_trans (Nat.le_trans (Nat.le_trans (Nat.le_trans (Nat.le_trans (Nat.le_trans (Nat.le_trans (Nat.le_refl _) Kh19.1) (Nat.le_of_eq Wh22.size.symm)) (Nat.le_of_eq Wh25.size.symm)) (Nat.le_of_eq Wh28.size.symm)) (Nat.le_of_eq Wh31.size.symm)) (Nat.le_of_eq Wh34.size.symm)) (Nat.le_of_eq Wh37.size.symm)) Kh84.1) Kh86.1)) (Nat.le_of_eq ga87))) nin0))).keep Kh100 (ninS (Nat.ne_of_lt (Nat.lt_of_lt_of_le (Nat.lt_of_lt_of_le (Aa17).lt (Nat.le_trans (Nat.le_trans (Nat.le_trans (Nat.le_trans (Nat.le_trans (Nat.le_trans (Nat.le_trans (Nat.le_trans (Nat.le_trans (Nat.le_trans (Nat.le_trans (Nat.le_refl _) Kh19.1) (Nat.le_of_eq Wh22.size.symm)) (Nat.le_of_eq Wh25.size.symm)) (Nat.le_of_eq Wh28.size.symm)) (Nat.le_of_eq Wh31.size.symm)) (Nat.le_of_eq Wh34.size.symm)) (Nat.le_of_eq Wh37.size.symm)) Kh84.1) Kh86.1) Eh88.1) Kh91.1)) (Nat.le_of_eq ga96))) nin0))
    have G108 := ((((((GG.keep Kh84 (ninS (Ne.symm (Nat.ne_of_lt (Nat.lt_of_lt_of_le (Nat.lt_of_lt_of_le (Aa17).lt (Nat.le_refl _)) gbt))) (ninS (Ne.symm d4) (ninS (Ne.symm d5) (ninS (Ne.symm d6) nin0))))).keep Kh86 (ninS (Ne.symm (Nat.ne_of_lt (Nat.lt_of_lt_of_le (Nat.lt_of_lt_of_le (Aa17).lt (Nat.le_refl _)) gbt))) (ninS (Ne.symm d4) (ninS (Ne.symm d5) (ninS (Ne.symm d6) nin0))))).ext Eh88).keep Kh91 (ninS (Nat.ne_of_lt (Nat.lt_of_lt_of_le (Nat.lt_of_lt_of_le (Abt).lt (Nat.le_trans (Nat.le_trans (Nat.le_trans (Nat.le_trans (Nat.le_trans (Nat.le_trans (Nat.le_trans (Nat.le_trans (Nat.le_refl _) (Nat.le_of_eq Wh22.size.symm)) (Nat.le_of_eq Wh25.size.symm)) (Nat.le_of_eq Wh28.size.symm)) (Nat.le_of_eq Wh31.size.symm)) (Nat.le_of_eq Wh34.size.symm)) (Nat.le_of_eq Wh37.size.symm)) Kh84.1) Kh86.1)) (Nat.le_of_eq ga87))) nin0)).ext Eh97).keep Kh100 (ninS (Nat.ne_of_lt (Nat.lt_of_lt_of_le (Nat.lt_of_lt_of_le (Abt).lt (Nat.le_trans (Nat.le_trans (Nat.le_trans (Nat.le_trans (Nat.le_trans (Nat.le_trans (Nat.le_trans (Nat.le_trans (Nat.le_trans (Nat.le_trans (Nat.le_refl _) (Nat.le_of_eq Wh22.size.symm)) (Nat.le_of_eq Wh25.size.symm)) (Nat.le_of_eq Wh28.size.symm)) (Nat.le_of_eq Wh31.size.symm)) (Nat.le_of_eq Wh34.size.symm)) (Nat.le_of_eq Wh37.size.symm)) Kh84.1) Kh86.1) Eh88.1) Kh91.1)) (Nat.le_of_eq ga96))) nin0))
    have G109 := ((Exa.ext Eh97 ((Exa.ext Eh88 (G85.keep Kh86)).keep Kh91)).keep Kh100)
    refine OG.ow (OG.callV C (w105 hw) (w106 hw) (w108 hw) (w107 hw) (w7 hw) (w109 hw) (by decide) G109 (bIC_1 hw a17 (Nat.le_trans (Nat.le_trans (Nat.le_trans (Nat.le_trans (Nat.le_trans (Nat.le_trans (Nat.le_trans (Nat.le_trans (Nat.le_trans (Nat.le_trans (Nat.le_trans (Nat.le_trans (Nat.le_trans (Nat.le_trans (Nat.le_trans (Nat.le_trans (Nat.le_trans (Nat.le_trans (Nat.le_trans (Nat.le_trans (Nat.le_trans (Nat.le_trans Z0 Eh2.1) (Nat.le_of_eq Wh3.size.symm)) (Nat.le_of_eq Wh5.size.symm)) (Nat.le_of_eq Wh7.size.symm)) Eh10.1) (Nat.le_of_eq Wh11.size.symm)) (Nat.le_of_eq Wh13.size.symm)) (Nat.le_of_eq Wh15.size.symm)) Eh18.1) Kh19.1) (Nat.le_of_eq Wh22.size.symm)) (Nat.le_of_eq Wh25.size.symm)) (Nat.le_of_eq Wh28.size.symm)) (Nat.le_of_eq Wh31.size.symm)) (Nat.le_of_eq Wh34.size.symm)) (Nat.le_of_eq Wh37.size.symm)) Kh84.1) Kh86.1) Eh88.1) Kh91.1) Eh97.1) Kh100.1) G106 G107 G105 G108 (own_64 (by simp) (by decide)) (by rfl) z0 y0 z1 y1) at_278 pd_16 rfl (argsL := [(.int (1 : Int32))]) (rest := []) rfl rfl (W := 0) rfl (by decide) (by decide) (pc' := 281) rfl) ?_
    refine OG.ow (OG.iload C at_281 rfl (pc' := 283) rfl) ?_
    refine OG.ow (OG.icmpNo C at_283 (teq (own_fin hu0 hu1)).2 (pc' := 286) rfl) ?_
    refine OG.ow (OG.aload C at_286 rfl rfl (pc' := 288) rfl) ?_
    refine OG.ow (OG.iload C at_288 rfl (pc' := 290) rfl) ?_
    refine OG.ow (OG.callV C (w105 hw) (w106 hw) (w108 hw) (w107 hw) (w7 hw) (w109 hw) (by decide) G109 (bIC_0 hw a17 (Nat.le_trans (Nat.le_trans (Nat.le_trans (Nat.le_trans (Nat.le_trans (Nat.le_trans (Nat.le_trans (Nat.le_trans (Nat.le_trans (Nat.le_trans (Nat.le_trans (Nat.le_trans (Nat.le_trans (Nat.le_trans (Nat.le_trans (Nat.le_trans (Nat.le_trans (Nat.le_trans (Nat.le_trans (Nat.le_trans (Nat.le_trans (Nat.le_trans Z0 Eh2.1) (Nat.le_of_eq Wh3.size.symm)) (Nat.le_of_eq Wh5.size.symm)) (Nat.le_of_eq Wh7.size.symm)) Eh10.1) (Nat.le_of_eq Wh11.size.symm)) (Nat.le_of_eq Wh13.size.symm)) (Nat.le_of_eq Wh15.size.symm)) Eh18.1) Kh19.1) (Nat.le_of_eq Wh22.size.symm)) (Nat.le_of_eq Wh25.size.symm)) (Nat.le_of_eq Wh28.size.symm)) (Nat.le_of_eq Wh31.size.symm)) (Nat.le_of_eq Wh34.size.symm)) (Nat.le_of_eq Wh37.size.symm)) Kh84.1) Kh86.1) Eh88.1) Kh91.1) Eh97.1) Kh100.1) G106 G107 G105 G108 (own_64 (by simp) (by decide)) (by rfl) z2 y2 z3 y3) at_290 pd_16 rfl (argsL := [(.int (0 : Int32))]) (rest := []) rfl rfl (W := 0) rfl (by decide) (by decide) (pc' := 293) rfl) ?_
    refine OG.ow (OG.iload C at_293 rfl (pc' := 295) rfl) ?_
    refine OG.ow (OG.icmpNo C at_295 (teq (own_fin hu3 hu4)).2 (pc' := 298) rfl) ?_
    refine OG.ow (OG.iconst C at_298 (z := (1 : Int32)) rfl (pc' := 299) rfl) ?_
    refine OG.ow (OG.goto C at_299 (by decide) (pc' := 303) (by decide)) ?_
    refine OW.retN (t := .boolean) C (by simp) at_303 (by decide) (by decide) ?_
    rfl
set_option maxRecDepth 65536 in
set_option maxHeartbeats 40000000 in
theorem comes_1 {Post : Tables → Env → Array Value → State → Outcome → State → Prop} (hpost : ∀ tb e args s v u, (limb_1_1.after args s (.returned v) u = true ∧ limb_1_2.after args s (.returned v) u = true ∧ True) → FrameEnd s (.returned v) u (Jvm.fieldLocs frame_1_writes args s ++ Jvm.arrayLocs frame_1_arrays args s ++ Jvm.staticLocs frame_1_statics s) 32 576 → Post tb e args s (.returned v) u) :
    ArmFor flags0 classFile x code maxLocals ret World_1 tables_1 room_1 Calls_1 rest_1 Pre_1 Post := by
  intro l hfl _ _ p e ha hc hk s m args below hf hA hF happ hP
  obtain ⟨hcalls, hrest, hpre⟩ := hP
  obtain ⟨-, -, -, hnamed, -, -, -, hat⟩ := (Spec.applies_iff hf).mp happ
  obtain ⟨hg, hn⟩ := and_e (Cond.before_iff.mp (show (Jvm.Cond.and given_1 narrow_1).before args s = true from hpre))
  obtain ⟨h1, q0⟩ := and_e hg
  obtain ⟨k0, q1⟩ := and_e q0
  obtain ⟨k1, q2⟩ := and_e q1
  obtain ⟨u0, u1, u2, rfl⟩ : ∃ u0 u1 u2 : Value, args = #[u0, u1, u2] := by
    have hs : args.size = 3 := by simpa [Cond.value, given_1] using h1
    obtain ⟨L⟩ := args
    match L, hs with
    | [u0, u1, u2], _ => exact ⟨u0, u1, u2, rfl⟩
  have hw : HW #[u0, u1, u2] s := fun d (hd : d ∈ tables_1) => atoms_spec (ws := Jvm.Cond.code x code maxLocals ret :: tables_1) hat d (List.mem_cons_of_mem _ hd)
  have hfit : Fit s := fun {y c} hc i hi => by
    obtain ⟨ha, rfl⟩ := Array.getElem?_eq_some_iff.mp hc
    have q := List.all_eq_true.mp ((Array.all_eq_true_iff_forall_mem.mp hF) _ (Array.getElem_mem ha)) i (List.mem_range.mpr hi)
    simpa [Array.getElem?_eq_getElem hi] using q
  obtain ⟨i0, e0⟩ := is_v k0
  obtain rfl : u0 = (.int i0) := Option.some.inj e0
  obtain ⟨i1, e1⟩ := is_v k1
  obtain rfl : u1 = (.int i1) := Option.some.inj e1
  obtain ⟨i2, e2⟩ := is_v q2
  obtain rfl : u2 = (.int i2) := Option.some.inj e2
  obtain ⟨hsets, hown0⟩ := atoms_of _ (rest_1_c_eq ▸ (show rest_1_c.before _ s = true from hrest))
  have ncs := not_v (Cond.before_iff.mp (hsets _ (List.mem_of_getElem? (i := 2) rfl)))
  obtain ⟨cs, ecs⟩ := is_v (Cond.before_iff.mp (hsets _ (List.mem_of_getElem? (i := 1) rfl)))
  have Scs : Sta s s.heap "java/lang/String" "COMPACT_STRINGS" "Z" (.int cs) := Sta.start ecs (Or.inl (hsets _ (List.mem_of_getElem? (i := 0) rfl)))
  have hcs : ¬ (cs = (0 : Int32)) := gotF (Cond.eq_ints ecs (Term.int_eval (0))) ncs
  obtain ⟨fm, efm, rfm⟩ := isR_v (Cond.before_iff.mp (hsets _ (List.mem_of_getElem? (i := 8) rfl)))
  have Sfm : Sta s s.heap "jdk/internal/util/Preconditions" "SIOOBE_FORMATTER" "Ljava/util/function/BiFunction;" fm := Sta.start efm (Or.inl (hsets _ (List.mem_of_getElem? (i := 7) rfl)))
  obtain ⟨n, o, h1, h2, h3, _, L, rfl, ⟨hv, N⟩, hq⟩ := b0 (l := l) hw i0 i1 i2 (Nat.le_refl _) Scs hcs Sfm rfm (n0 := s.heap.size) (h := s.heap) tables_1 p e ha hc hk s m _ below hf ((Spec.applies_iff_loose hf).mp happ).1 ⟨rfl, State.Warmed39.refl s, rfl⟩ trivial
  subst hv
  refine ⟨n, _, h1, h2, h3, hpost _ _ _ _ _ _ ⟨Cond.after_iff.mpr rfl, Cond.after_iff.mpr (eq_i res_at (Term.int_eval (1)) rfl), trivial⟩ ⟨hq.1, hq.2.1, (hq.2.2.sift fun y hy => Or.inr (N y hy)).mono (by decide) (by decide)⟩⟩
theorem main_1_1 : Claimed_1_1 := comes_1 fun _ _ _ _ _ _ h hF => ⟨h.1, hF⟩
theorem main_1_2 : Claimed_1_2 := comes_1 fun _ _ _ _ _ _ h hF => ⟨h.2.1, hF⟩
end Jvm.Pilot.@@N@@
namespace Jvm.Pilot.@@N@@
open Jvm Jvm.ClassFile Sem Op Lib Jvm.Free Jvm.Stand Jvm.Pilot.@@N@@.Jvm.D
/-! MADE BY PROGRAM (witnessworld.py) out of the Statement's table words and the real class files: 21 classes; the members and pool entries that the words name. The judged class is class 1, her method 2. -/
namespace start1
open Jvm.ClassFile
def u (s : String) : CpInfo := .utf8 (stringToUtf16 s)
/-- a pool by its gaps: so many unusable entries, then the entry; so many at the end -/
def gap : Nat → List CpInfo → List CpInfo
  | 0, r => r
  | n + 1, r => .unusable :: gap n r
def poolList (es : List (Nat × CpInfo)) (last : Nat) : List CpInfo := es.foldr (fun e r => gap e.1 (e.2 :: r)) (gap last [])
def pool (es : List (Nat × CpInfo)) (last : Nat) : Array CpInfo := ⟨poolList es last⟩
def fileOf (pool : Array CpInfo) (this : Nat) (attrs : Array Attribute := #[]) (ms : Array MethodInfo := #[]) (fl : Nat := 33) (sup : Nat := 0) (ifs : Array Nat := #[]) (fds : Array FieldInfo := #[]) : ClassFile where
  minorVersion := 0
  majorVersion := 65
  constantPool := pool
  accessFlags := fl
  thisClass := this
  superClass := sup
  interfaces := ifs
  fields := fds
  methods := ms
  attributes := attrs
def plain (name : String) (sup : Option ClassId) : Class where
  name := name
  kind := .ordinary
  loader := none
  accessFlags := 33
  super := sup
  interfaces := #[]
  cf := none
  fields := #[]
  methods := #[]
  instanceTypes := #[]
  staticTypes := #[]
  resolved := #[]
  callSites := []
  init := .initialized
  statics := none
  mirror := none

def pool0 : Array CpInfo := pool [(5, u "<init>"), (0, u "()V"), (1, .class_ 10), (1, u "java/lang/Object")] 113

def k0c0 : Code := { maxStack := 0, maxLocals := 1, code := object_method_1_code, exceptionTable := #[], attributes := #[] }
def k0m0 : Method := { name := "<init>", desc := "()V", sig := { parameters := [], returnType := none }, accessFlags := 1, code := some k0c0 }
/-- java/lang/Object -/
def k0 : Class := { plain "java/lang/Object" none with
  accessFlags := 33
  interfaces := #[]
  cf := some (fileOf pool0 8 #[] #[{ accessFlags := 1, nameIndex := 5, descriptorIndex := 6, attributes := #[] }] 33 0 #[] #[])
  fields := #[]
  methods := #[k0m0]
  instanceTypes := #[]
  staticTypes := #[]
  resolved := Array.replicate 124 none
  statics := none }

def pool1 : Array CpInfo := pool [(2, .class_ 4), (1, u "java/lang/Object"), (0, u "<init>"), (0, u "()V"), (0, .methodref 8 9), (0, .class_ 10), (0, .nameAndType 11 12), (0, u "com/example/kartoteka/kartoteka/model/StoredRecordIsControlPinLaw"), (0, u "pick"), (0, u "(I)C"), (0, .class_ 14), (0, u "com/example/kartoteka/kartoteka/model/StoredRecord"), (0, .methodref 13 16), (0, .nameAndType 5 17), (0, u "(I)V"), (0, .methodref 13 19), (0, .nameAndType 20 21), (0, u "room"), (0, u "(I)[B"), (0, .methodref 13 23), (0, .nameAndType 24 25), (0, u "add"), (0, u "(III)V"), (0, .class_ 27), (0, u "java/lang/String"), (0, .methodref 26 29), (0, .nameAndType 5 30), (0, u "([C)V"), (0, .methodref 32 33), (0, .class_ 34), (0, .nameAndType 35 36), (0, u "com/example/kartoteka/kartoteka/model/Field"), (0, u "isControlTag"), (0, u "(Ljava/lang/CharSequence;)Z"), (0, .methodref 13 38), (0, .nameAndType 39 40), (0, u "isControl"), (0, u "(I)Z"), (3, u "law"), (0, u "(III)Z")] 6

def k1m0 : Method := { name := "<init>", desc := "()V", sig := { parameters := [], returnType := none }, accessFlags := 1, code := none }
def k1c1 : Code := { maxStack := 2, maxLocals := 1, code := method_2_code, exceptionTable := #[], attributes := #[] }
def k1m1 : Method := { name := "pick", desc := "(I)C", sig := { parameters := [.int], returnType := some .char }, accessFlags := 10, code := some k1c1 }
def k1c2 : Code := { maxStack := 5, maxLocals := 14, code := code, exceptionTable := #[], attributes := #[] }
def k1m2 : Method := { name := "law", desc := "(III)Z", sig := { parameters := [.int, .int, .int], returnType := some .boolean }, accessFlags := 9, code := some k1c2 }
/-- com/example/kartoteka/kartoteka/model/StoredRecordIsControlPinLaw -/
def k1 : Class := { plain "com/example/kartoteka/kartoteka/model/StoredRecordIsControlPinLaw" (some 0) with
  accessFlags := 49
  interfaces := #[]
  cf := some (fileOf pool1 8 #[] #[{ accessFlags := 1, nameIndex := 5, descriptorIndex := 6, attributes := #[] }, { accessFlags := 10, nameIndex := 11, descriptorIndex := 12, attributes := #[] }, { accessFlags := 9, nameIndex := 44, descriptorIndex := 45, attributes := #[] }] 49 2 #[] #[])
  fields := #[]
  methods := #[k1m0, k1m1, k1m2]
  instanceTypes := #[]
  staticTypes := #[]
  resolved := Array.replicate 52 none
  statics := none }

def pool2 : Array CpInfo := pool [(3, .methodref 4 5), (0, .class_ 6), (0, .nameAndType 7 8), (0, u "java/lang/Object"), (0, u "<init>"), (0, u "()V"), (0, .class_ 10), (0, u "com/example/kartoteka/kartoteka/model/StoredRecord"), (0, .fieldref 9 12), (0, .nameAndType 13 14), (0, u "tags"), (0, u "[I"), (0, .fieldref 9 16), (0, .nameAndType 17 14), (0, u "starts"), (0, .fieldref 9 19), (0, .nameAndType 20 14), (0, u "lengths"), (0, .fieldref 9 22), (0, .nameAndType 23 24), (0, u "bytes"), (0, u "[B"), (4, u "fields"), (29, u "(I)V"), (35, u "add"), (0, u "(III)V"), (2, .fieldref 9 100), (0, .nameAndType 29 101), (0, u "I"), (66, u "FIELDS"), (10, u "room"), (0, u "(I)[B"), (5, u "isControl"), (0, u "(I)Z")] 26

def k2c0 : Code := { maxStack := 2, maxLocals := 2, code := prog_73_method_1_code, exceptionTable := #[], attributes := #[] }
def k2m0 : Method := { name := "<init>", desc := "(I)V", sig := { parameters := [.int], returnType := none }, accessFlags := 1, code := some k2c0 }
def k2c1 : Code := { maxStack := 5, maxLocals := 2, code := prog_73_method_4_code, exceptionTable := #[], attributes := #[] }
def k2m1 : Method := { name := "room", desc := "(I)[B", sig := { parameters := [.int], returnType := some (.array .byte) }, accessFlags := 1, code := some k2c1 }
def k2c2 : Code := { maxStack := 3, maxLocals := 5, code := prog_73_method_6_code, exceptionTable := #[], attributes := #[] }
def k2m2 : Method := { name := "add", desc := "(III)V", sig := { parameters := [.int, .int, .int], returnType := none }, accessFlags := 1, code := some k2c2 }
def k2c3 : Code := { maxStack := 3, maxLocals := 3, code := prog_73_method_11_code, exceptionTable := #[], attributes := #[] }
def k2m3 : Method := { name := "isControl", desc := "(I)Z", sig := { parameters := [.int], returnType := some .boolean }, accessFlags := 1, code := some k2c3 }
/-- com/example/kartoteka/kartoteka/model/StoredRecord -/
def k2 : Class := { plain "com/example/kartoteka/kartoteka/model/StoredRecord" (some 0) with
  accessFlags := 49
  interfaces := #[]
  cf := some (fileOf pool2 9 #[] #[{ accessFlags := 1, nameIndex := 7, descriptorIndex := 59, attributes := #[] }, { accessFlags := 1, nameIndex := 179, descriptorIndex := 180, attributes := #[] }, { accessFlags := 1, nameIndex := 95, descriptorIndex := 96, attributes := #[] }, { accessFlags := 1, nameIndex := 186, descriptorIndex := 187, attributes := #[] }] 49 4 #[] #[{ accessFlags := 26, nameIndex := 168, descriptorIndex := 101, attributes := #[] }, { accessFlags := 2, nameIndex := 23, descriptorIndex := 24, attributes := #[] }, { accessFlags := 2, nameIndex := 29, descriptorIndex := 101, attributes := #[] }, { accessFlags := 2, nameIndex := 13, descriptorIndex := 14, attributes := #[] }, { accessFlags := 2, nameIndex := 17, descriptorIndex := 14, attributes := #[] }, { accessFlags := 2, nameIndex := 20, descriptorIndex := 14, attributes := #[] }])
  fields := #[{ name := "FIELDS", type := .int, accessFlags := 26, slot := 0, constantValue := 0 }, { name := "bytes", type := (.array .byte), accessFlags := 2, slot := 0, constantValue := 0 }, { name := "fields", type := .int, accessFlags := 2, slot := 1, constantValue := 0 }, { name := "tags", type := (.array .int), accessFlags := 2, slot := 2, constantValue := 0 }, { name := "starts", type := (.array .int), accessFlags := 2, slot := 3, constantValue := 0 }, { name := "lengths", type := (.array .int), accessFlags := 2, slot := 4, constantValue := 0 }]
  methods := #[k2m0, k2m1, k2m2, k2m3]
  instanceTypes := #[(.array .byte), .int, (.array .int), (.array .int), (.array .int)]
  staticTypes := #[.int]
  resolved := Array.replicate 214 none
  statics := none }

def pool3 : Array CpInfo := pool [(1, .class_ 2), (0, u "java/io/Serializable"), (0, .class_ 4), (0, u "java/lang/Object")] 2

/-- java/io/Serializable -/
def k3 : Class := { plain "java/io/Serializable" (some 0) with
  accessFlags := 1537
  interfaces := #[]
  cf := some (fileOf pool3 1 #[] #[] 1537 3 #[] #[])
  fields := #[]
  methods := #[]
  instanceTypes := #[]
  staticTypes := #[]
  resolved := Array.replicate 7 none
  statics := none }

def pool4 : Array CpInfo := pool [(1, .class_ 2), (0, u "java/lang/Comparable"), (0, .class_ 4), (0, u "java/lang/Object")] 7

/-- java/lang/Comparable -/
def k4 : Class := { plain "java/lang/Comparable" (some 0) with
  accessFlags := 1537
  interfaces := #[]
  cf := some (fileOf pool4 1 #[] #[] 1537 3 #[] #[])
  fields := #[]
  methods := #[]
  instanceTypes := #[]
  staticTypes := #[]
  resolved := Array.replicate 12 none
  statics := none }

def pool5 : Array CpInfo := pool [(2, .class_ 4), (1, u "java/lang/CharSequence"), (0, u "length"), (0, u "()I"), (38, u "charAt"), (0, u "(I)C"), (0, .class_ 48), (0, u "java/lang/CharSequence$1CodePointIterator"), (10, .class_ 60), (0, u "java/lang/CharSequence$1CharIterator"), (5, .class_ 67), (0, u "java/lang/Object")] 63

def k5m0 : Method := { name := "length", desc := "()I", sig := { parameters := [], returnType := some .int }, accessFlags := 1025, code := none }
def k5m1 : Method := { name := "charAt", desc := "(I)C", sig := { parameters := [.int], returnType := some .char }, accessFlags := 1025, code := none }
/-- java/lang/CharSequence -/
def k5 : Class := { plain "java/lang/CharSequence" (some 0) with
  accessFlags := 1537
  interfaces := #[]
  cf := some (fileOf pool5 2 #[.nestMembers #[47, 59]] #[{ accessFlags := 1025, nameIndex := 5, descriptorIndex := 6, attributes := #[] }, { accessFlags := 1025, nameIndex := 45, descriptorIndex := 46, attributes := #[] }] 1537 66 #[] #[])
  fields := #[]
  methods := #[k5m0, k5m1]
  instanceTypes := #[]
  staticTypes := #[]
  resolved := Array.replicate 131 none
  statics := none }

def pool6 : Array CpInfo := pool [(1, .class_ 2), (0, u "java/lang/constant/Constable"), (0, .class_ 4), (0, u "java/lang/Object")] 6

/-- java/lang/constant/Constable -/
def k6 : Class := { plain "java/lang/constant/Constable" (some 0) with
  accessFlags := 1537
  interfaces := #[]
  cf := some (fileOf pool6 1 #[] #[] 1537 3 #[] #[])
  fields := #[]
  methods := #[]
  instanceTypes := #[]
  staticTypes := #[]
  resolved := Array.replicate 11 none
  statics := none }

def pool7 : Array CpInfo := pool [(1, .class_ 2), (0, u "java/lang/constant/ConstantDesc"), (0, .class_ 4), (0, u "java/lang/Object")] 32

/-- java/lang/constant/ConstantDesc -/
def k7 : Class := { plain "java/lang/constant/ConstantDesc" (some 0) with
  accessFlags := 1537
  interfaces := #[]
  cf := some (fileOf pool7 1 #[] #[] 1537 3 #[] #[])
  fields := #[]
  methods := #[]
  instanceTypes := #[]
  staticTypes := #[]
  resolved := Array.replicate 37 none
  statics := none }

def pool8 : Array CpInfo := pool [(1, .methodref 2 3), (0, .class_ 4), (0, .nameAndType 5 6), (0, u "java/lang/Object"), (0, u "<init>"), (0, u "()V"), (2, .fieldref 10 11), (0, .class_ 12), (0, .nameAndType 13 14), (0, u "java/lang/String"), (0, u "value"), (0, u "[B"), (0, .fieldref 10 16), (0, .nameAndType 17 18), (0, u "coder"), (0, u "B"), (2, u "hash"), (0, u "I"), (2, u "hashIsZero"), (0, u "Z"), (0, .methodref 10 28), (0, .nameAndType 5 29), (0, u "([CIILjava/lang/Void;)V"), (8, .fieldref 10 39), (0, .nameAndType 40 26), (0, u "COMPACT_STRINGS"), (1, .class_ 44), (1, u "java/lang/StringUTF16"), (0, u "compress"), (1, .methodref 42 48), (0, .nameAndType 49 50), (0, u "coderFromArrayLen"), (0, u "([BI)B"), (56, .class_ 109), (1, u "java/lang/StringLatin1"), (32, u "()Z"), (34, .methodref 42 178), (0, .nameAndType 45 179), (0, u "([CII)[B"), (154, u "()I"), (0, .methodref 10 336), (0, .nameAndType 17 337), (0, u "()B"), (25, u "([BI)C"), (27, u "(II)V"), (35, u "(I)C"), (64, .methodref 10 493), (0, .nameAndType 494 142), (0, u "isLatin1"), (0, .methodref 107 496), (0, .nameAndType 497 363), (0, u "charAt"), (3, u "checkIndex"), (5, u "length"), (67, .class_ 576), (0, u "java/lang/CharSequence"), (22, u "CASE_INSENSITIVE_ORDER"), (0, u "Ljava/util/Comparator;"), (409, u "([C)V"), (42, .fieldref 1054 1055), (0, .class_ 1056), (0, .nameAndType 1057 1058), (0, u "jdk/internal/util/Preconditions"), (0, u "SIOOBE_FORMATTER"), (0, u "Ljava/util/function/BiFunction;"), (0, .methodref 1054 1060), (0, .nameAndType 501 1061), (0, u "(IILjava/util/function/BiFunction;)I"), (39, u "serialPersistentFields"), (0, u "[Ljava/io/ObjectStreamField;"), (0, .class_ 1104), (0, u "java/lang/String$CaseInsensitiveComparator"), (1, .class_ 1107), (0, u "java/io/Serializable"), (0, .class_ 1109), (0, u "java/lang/Comparable"), (0, .class_ 1111), (0, u "java/lang/constant/Constable"), (0, .class_ 1113), (0, u "java/lang/constant/ConstantDesc"), (2, u "serialVersionUID"), (0, u "J"), (3, u "REPL"), (0, u "C"), (2, u "LATIN1"), (1, u "UTF16")] 323

def k8m0 : Method := { name := "<init>", desc := "()V", sig := { parameters := [], returnType := none }, accessFlags := 1, code := none }
def k8c1 : Code := { maxStack := 5, maxLocals := 2, code := jdk_42_method_3_code, exceptionTable := #[], attributes := #[] }
def k8m1 : Method := { name := "<init>", desc := "([C)V", sig := { parameters := [(.array .char)], returnType := none }, accessFlags := 1, code := some k8c1 }
def k8c2 : Code := { maxStack := 2, maxLocals := 1, code := jdk_42_method_54_code, exceptionTable := #[], attributes := #[] }
def k8m2 : Method := { name := "length", desc := "()I", sig := { parameters := [], returnType := some .int }, accessFlags := 1, code := some k8c2 }
def k8c3 : Code := { maxStack := 2, maxLocals := 2, code := jdk_42_method_56_code, exceptionTable := #[], attributes := #[] }
def k8m3 : Method := { name := "charAt", desc := "(I)C", sig := { parameters := [.int], returnType := some .char }, accessFlags := 1, code := some k8c3 }
def k8c4 : Code := { maxStack := 4, maxLocals := 6, code := jdk_42_method_149_code, exceptionTable := #[], attributes := #[] }
def k8m4 : Method := { name := "<init>", desc := "([CIILjava/lang/Void;)V", sig := { parameters := [(.array .char), .int, .int, (.object "java/lang/Void")], returnType := none }, accessFlags := 2, code := some k8c4 }
def k8c5 : Code := { maxStack := 1, maxLocals := 1, code := jdk_42_method_152_code, exceptionTable := #[], attributes := #[] }
def k8m5 : Method := { name := "coder", desc := "()B", sig := { parameters := [], returnType := some .byte }, accessFlags := 0, code := some k8c5 }
def k8c6 : Code := { maxStack := 1, maxLocals := 1, code := jdk_42_method_154_code, exceptionTable := #[], attributes := #[] }
def k8m6 : Method := { name := "isLatin1", desc := "()Z", sig := { parameters := [], returnType := some .boolean }, accessFlags := 0, code := some k8c6 }
def k8c7 : Code := { maxStack := 3, maxLocals := 2, code := jdk_42_method_155_code, exceptionTable := #[], attributes := #[] }
def k8m7 : Method := { name := "checkIndex", desc := "(II)V", sig := { parameters := [.int, .int], returnType := none }, accessFlags := 8, code := some k8c7 }
/-- java/lang/String -/
def k8 : Class := { plain "java/lang/String" (some 0) with
  accessFlags := 49
  interfaces := #[3, 4, 5, 6, 7]
  cf := some (fileOf pool8 10 #[.nestMembers #[1103]] #[{ accessFlags := 1, nameIndex := 5, descriptorIndex := 6, attributes := #[] }, { accessFlags := 1, nameIndex := 5, descriptorIndex := 1010, attributes := #[] }, { accessFlags := 1, nameIndex := 507, descriptorIndex := 334, attributes := #[] }, { accessFlags := 1, nameIndex := 497, descriptorIndex := 427, attributes := #[] }, { accessFlags := 2, nameIndex := 5, descriptorIndex := 29, attributes := #[] }, { accessFlags := 0, nameIndex := 17, descriptorIndex := 337, attributes := #[] }, { accessFlags := 0, nameIndex := 494, descriptorIndex := 142, attributes := #[] }, { accessFlags := 8, nameIndex := 501, descriptorIndex := 391, attributes := #[] }] 49 2 #[1106, 1108, 575, 1110, 1112] #[{ accessFlags := 18, nameIndex := 13, descriptorIndex := 14, attributes := #[] }, { accessFlags := 18, nameIndex := 17, descriptorIndex := 18, attributes := #[] }, { accessFlags := 2, nameIndex := 21, descriptorIndex := 22, attributes := #[] }, { accessFlags := 2, nameIndex := 25, descriptorIndex := 26, attributes := #[] }, { accessFlags := 26, nameIndex := 1116, descriptorIndex := 1117, attributes := #[] }, { accessFlags := 24, nameIndex := 40, descriptorIndex := 26, attributes := #[] }, { accessFlags := 26, nameIndex := 1101, descriptorIndex := 1102, attributes := #[] }, { accessFlags := 26, nameIndex := 1121, descriptorIndex := 1122, attributes := #[] }, { accessFlags := 25, nameIndex := 599, descriptorIndex := 600, attributes := #[] }, { accessFlags := 24, nameIndex := 1125, descriptorIndex := 18, attributes := #[] }, { accessFlags := 24, nameIndex := 1127, descriptorIndex := 18, attributes := #[] }])
  fields := #[{ name := "value", type := (.array .byte), accessFlags := 18, slot := 0, constantValue := 0 }, { name := "coder", type := .byte, accessFlags := 18, slot := 1, constantValue := 0 }, { name := "hash", type := .int, accessFlags := 2, slot := 2, constantValue := 0 }, { name := "hashIsZero", type := .boolean, accessFlags := 2, slot := 3, constantValue := 0 }, { name := "serialVersionUID", type := .long, accessFlags := 26, slot := 0, constantValue := 0 }, { name := "COMPACT_STRINGS", type := .boolean, accessFlags := 24, slot := 1, constantValue := 0 }, { name := "serialPersistentFields", type := (.array (.object "java/io/ObjectStreamField")), accessFlags := 26, slot := 2, constantValue := 0 }, { name := "REPL", type := .char, accessFlags := 26, slot := 3, constantValue := 0 }, { name := "CASE_INSENSITIVE_ORDER", type := (.object "java/util/Comparator"), accessFlags := 25, slot := 4, constantValue := 0 }, { name := "LATIN1", type := .byte, accessFlags := 24, slot := 5, constantValue := 0 }, { name := "UTF16", type := .byte, accessFlags := 24, slot := 6, constantValue := 0 }]
  methods := #[k8m0, k8m1, k8m2, k8m3, k8m4, k8m5, k8m6, k8m7]
  instanceTypes := #[(.array .byte), .byte, .int, .boolean]
  staticTypes := #[.long, .boolean, (.array (.object "java/io/ObjectStreamField")), .char, (.object "java/util/Comparator"), .byte, .byte]
  resolved := Array.replicate 1451 none
  statics := some 0 }

def pool9 : Array CpInfo := pool [(6, .class_ 8), (1, u "java/lang/Object"), (0, u "<init>"), (0, u "()V"), (1, .class_ 14), (1, u "java/lang/StringUTF16"), (31, u "$assertionsDisabled"), (0, u "Z"), (13, u "HI_BYTE_SHIFT"), (0, u "I"), (2, u "LO_BYTE_SHIFT"), (49, .methodref 12 116), (0, .nameAndType 117 118), (0, u "compress"), (0, u "([CI[BII)I"), (3, u "([CII)[B"), (138, u "coderFromArrayLen"), (0, u "([BI)B"), (106, .class_ 371), (1, u "java/lang/StringUTF16$LinesSpliterator"), (58, u "MAX_LENGTH"), (196, .class_ 628), (0, u "java/lang/StringUTF16$CodePointsSpliterator"), (0, .class_ 630), (0, u "java/lang/StringUTF16$CharsSpliterator")] 4

def k9m0 : Method := { name := "<init>", desc := "()V", sig := { parameters := [], returnType := none }, accessFlags := 0, code := none }
def k9c1 : Code := { maxStack := 2, maxLocals := 2, code := jdk_52_method_15_code, exceptionTable := #[], attributes := #[] }
def k9m1 : Method := { name := "coderFromArrayLen", desc := "([BI)B", sig := { parameters := [(.array .byte), .int], returnType := some .byte }, accessFlags := 8, code := some k9c1 }
def k9c2 : Code := { maxStack := 5, maxLocals := 6, code := jdk_52_method_16_code, exceptionTable := #[], attributes := #[] }
def k9m2 : Method := { name := "compress", desc := "([CII)[B", sig := { parameters := [(.array .char), .int, .int], returnType := some (.array .byte) }, accessFlags := 9, code := some k9c2 }
def k9c3 : Code := { maxStack := 3, maxLocals := 7, code := jdk_52_method_21_code, exceptionTable := #[], attributes := #[] }
def k9m3 : Method := { name := "compress", desc := "([CI[BII)I", sig := { parameters := [(.array .char), .int, (.array .byte), .int, .int], returnType := some .int }, accessFlags := 9, code := some k9c3 }
/-- java/lang/StringUTF16 -/
def k9 : Class := { plain "java/lang/StringUTF16" (some 0) with
  accessFlags := 48
  interfaces := #[]
  cf := some (fileOf pool9 12 #[.nestMembers #[627, 629, 369]] #[{ accessFlags := 0, nameIndex := 9, descriptorIndex := 10, attributes := #[] }, { accessFlags := 8, nameIndex := 261, descriptorIndex := 262, attributes := #[] }, { accessFlags := 9, nameIndex := 117, descriptorIndex := 122, attributes := #[] }, { accessFlags := 9, nameIndex := 117, descriptorIndex := 118, attributes := #[] }] 48 6 #[] #[{ accessFlags := 26, nameIndex := 61, descriptorIndex := 62, attributes := #[] }, { accessFlags := 26, nameIndex := 65, descriptorIndex := 62, attributes := #[] }, { accessFlags := 24, nameIndex := 430, descriptorIndex := 62, attributes := #[] }, { accessFlags := 4120, nameIndex := 46, descriptorIndex := 47, attributes := #[] }])
  fields := #[{ name := "HI_BYTE_SHIFT", type := .int, accessFlags := 26, slot := 0, constantValue := 0 }, { name := "LO_BYTE_SHIFT", type := .int, accessFlags := 26, slot := 1, constantValue := 0 }, { name := "MAX_LENGTH", type := .int, accessFlags := 24, slot := 2, constantValue := 0 }, { name := "$assertionsDisabled", type := .boolean, accessFlags := 4120, slot := 3, constantValue := 0 }]
  methods := #[k9m0, k9m1, k9m2, k9m3]
  instanceTypes := #[]
  staticTypes := #[.int, .int, .int, .boolean]
  resolved := Array.replicate 635 none
  statics := none }

def pool10 : Array CpInfo := pool [(2, .class_ 4), (1, u "com/example/kartoteka/kartoteka/model/Field"), (3, .class_ 10), (1, u "java/lang/Object"), (14, u "tag"), (0, u "Ljava/lang/String;"), (8, u "data"), (0, u "[B"), (2, u "isControlTag"), (0, u "(Ljava/lang/CharSequence;)Z"), (45, .nameAndType 87 88), (0, u "length"), (0, u "()I"), (1, .nameAndType 91 92), (0, u "charAt"), (0, u "(I)C"), (63, .interfaceMethodref 157 86), (0, .class_ 158), (0, u "java/lang/CharSequence"), (0, .interfaceMethodref 157 90), (35, .class_ 197), (1, u "com/example/kartoteka/kartoteka/model/Field$SubfieldDecoder"), (126, u "SUBFIELD_DELIMITER"), (0, u "B"), (2, u "SEPARATORS"), (0, u "TAG_LENGTH"), (0, u "I"), (1, u "INDICATORS"), (1, u "SUBFIELD_HEAD"), (0, u "NOT_A_TAG")] 75

def k10c0 : Code := { maxStack := 2, maxLocals := 1, code := prog_67_method_9_code, exceptionTable := #[], attributes := #[] }
def k10m0 : Method := { name := "isControlTag", desc := "(Ljava/lang/CharSequence;)Z", sig := { parameters := [(.object "java/lang/CharSequence")], returnType := some .boolean }, accessFlags := 9, code := some k10c0 }
/-- com/example/kartoteka/kartoteka/model/Field -/
def k10 : Class := { plain "com/example/kartoteka/kartoteka/model/Field" (some 0) with
  accessFlags := 49
  interfaces := #[]
  cf := some (fileOf pool10 2 #[.nestMembers #[195]] #[{ accessFlags := 9, nameIndex := 39, descriptorIndex := 40, attributes := #[] }] 49 8 #[] #[{ accessFlags := 26, nameIndex := 324, descriptorIndex := 325, attributes := #[] }, { accessFlags := 26, nameIndex := 328, descriptorIndex := 26, attributes := #[] }, { accessFlags := 25, nameIndex := 329, descriptorIndex := 330, attributes := #[] }, { accessFlags := 24, nameIndex := 332, descriptorIndex := 330, attributes := #[] }, { accessFlags := 26, nameIndex := 334, descriptorIndex := 330, attributes := #[] }, { accessFlags := 26, nameIndex := 335, descriptorIndex := 26, attributes := #[] }, { accessFlags := 18, nameIndex := 25, descriptorIndex := 26, attributes := #[] }, { accessFlags := 18, nameIndex := 35, descriptorIndex := 36, attributes := #[] }])
  fields := #[{ name := "SUBFIELD_DELIMITER", type := .byte, accessFlags := 26, slot := 0, constantValue := 0 }, { name := "SEPARATORS", type := (.object "java/lang/String"), accessFlags := 26, slot := 1, constantValue := 0 }, { name := "TAG_LENGTH", type := .int, accessFlags := 25, slot := 2, constantValue := 0 }, { name := "INDICATORS", type := .int, accessFlags := 24, slot := 3, constantValue := 0 }, { name := "SUBFIELD_HEAD", type := .int, accessFlags := 26, slot := 4, constantValue := 0 }, { name := "NOT_A_TAG", type := (.object "java/lang/String"), accessFlags := 26, slot := 5, constantValue := 0 }, { name := "tag", type := (.object "java/lang/String"), accessFlags := 18, slot := 0, constantValue := 0 }, { name := "data", type := (.array .byte), accessFlags := 18, slot := 1, constantValue := 0 }]
  methods := #[k10m0]
  instanceTypes := #[(.object "java/lang/String"), (.array .byte)]
  staticTypes := #[.byte, (.object "java/lang/String"), .int, .int, .int, (.object "java/lang/String")]
  resolved := Array.replicate 411 none
  statics := none }

def pool11 : Array CpInfo := pool [(1, .class_ 2), (0, u "java/lang/String"), (1, .class_ 6), (1, u "java/lang/Object"), (0, u "<init>"), (0, u "()V"), (0, .methodref 1 10), (0, .nameAndType 11 12), (0, u "checkIndex"), (0, u "(II)V"), (1, .class_ 16), (1, u "java/lang/StringLatin1"), (36, u "([BI)C"), (67, u "$assertionsDisabled"), (0, u "Z"), (98, .class_ 223), (1, u "java/lang/StringLatin1$LinesSpliterator"), (28, u "charAt"), (137, .class_ 391), (0, u "java/lang/StringLatin1$CharsSpliterator")] 3

def k11m0 : Method := { name := "<init>", desc := "()V", sig := { parameters := [], returnType := none }, accessFlags := 0, code := none }
def k11c1 : Code := { maxStack := 2, maxLocals := 2, code := jdk_43_method_2_code, exceptionTable := #[], attributes := #[] }
def k11m1 : Method := { name := "charAt", desc := "([BI)C", sig := { parameters := [(.array .byte), .int], returnType := some .char }, accessFlags := 9, code := some k11c1 }
/-- java/lang/StringLatin1 -/
def k11 : Class := { plain "java/lang/StringLatin1" (some 0) with
  accessFlags := 48
  interfaces := #[]
  cf := some (fileOf pool11 14 #[.nestMembers #[390, 221]] #[{ accessFlags := 0, nameIndex := 7, descriptorIndex := 8, attributes := #[] }, { accessFlags := 9, nameIndex := 252, descriptorIndex := 53, attributes := #[] }] 48 4 #[] #[{ accessFlags := 4120, nameIndex := 121, descriptorIndex := 122, attributes := #[] }])
  fields := #[{ name := "$assertionsDisabled", type := .boolean, accessFlags := 4120, slot := 0, constantValue := 0 }]
  methods := #[k11m0, k11m1]
  instanceTypes := #[]
  staticTypes := #[.boolean]
  resolved := Array.replicate 395 none
  statics := none }

def pool12 : Array CpInfo := pool [(2, .class_ 4), (1, u "java/lang/Object"), (0, u "<init>"), (0, u "()V"), (17, .class_ 26), (1, u "jdk/internal/util/Preconditions"), (6, u "checkIndex"), (21, .class_ 56), (0, u "jdk/internal/util/Preconditions$4"), (57, .class_ 115), (0, u "jdk/internal/util/Preconditions$1"), (7, u "SIOOBE_FORMATTER"), (0, u "Ljava/util/function/BiFunction;"), (0, .class_ 126), (0, u "jdk/internal/util/Preconditions$2"), (3, u "AIOOBE_FORMATTER"), (0, .class_ 132), (0, u "jdk/internal/util/Preconditions$3"), (3, u "IOOBE_FORMATTER"), (41, u "(IILjava/util/function/BiFunction;)I")] 15

def k12m0 : Method := { name := "<init>", desc := "()V", sig := { parameters := [], returnType := none }, accessFlags := 1, code := none }
def k12c1 : Code := { maxStack := 3, maxLocals := 3, code := jdk_41_method_11_code, exceptionTable := #[], attributes := #[] }
def k12m1 : Method := { name := "checkIndex", desc := "(IILjava/util/function/BiFunction;)I", sig := { parameters := [.int, .int, (.object "java/util/function/BiFunction")], returnType := some .int }, accessFlags := 9, code := some k12c1 }
/-- jdk/internal/util/Preconditions -/
def k12 : Class := { plain "jdk/internal/util/Preconditions" (some 0) with
  accessFlags := 33
  interfaces := #[]
  cf := some (fileOf pool12 24 #[.nestMembers #[55, 131, 125, 114]] #[{ accessFlags := 1, nameIndex := 5, descriptorIndex := 6, attributes := #[] }, { accessFlags := 9, nameIndex := 33, descriptorIndex := 178, attributes := #[] }] 33 2 #[] #[{ accessFlags := 25, nameIndex := 123, descriptorIndex := 124, attributes := #[] }, { accessFlags := 25, nameIndex := 130, descriptorIndex := 124, attributes := #[] }, { accessFlags := 25, nameIndex := 136, descriptorIndex := 124, attributes := #[] }])
  fields := #[{ name := "SIOOBE_FORMATTER", type := (.object "java/util/function/BiFunction"), accessFlags := 25, slot := 0, constantValue := 0 }, { name := "AIOOBE_FORMATTER", type := (.object "java/util/function/BiFunction"), accessFlags := 25, slot := 1, constantValue := 0 }, { name := "IOOBE_FORMATTER", type := (.object "java/util/function/BiFunction"), accessFlags := 25, slot := 2, constantValue := 0 }]
  methods := #[k12m0, k12m1]
  instanceTypes := #[]
  staticTypes := #[(.object "java/util/function/BiFunction"), (.object "java/util/function/BiFunction"), (.object "java/util/function/BiFunction")]
  resolved := Array.replicate 194 none
  statics := some 1 }

def pool13 : Array CpInfo := pool [(9, u "<init>"), (6, .class_ 18), (1, u "java/lang/Object"), (0, u "()V"), (1, .class_ 23), (1, u "jdk/internal/util/ArraysSupport"), (0, u "LOG2_ARRAY_LONG_INDEX_SCALE"), (0, u "I"), (2, u "U"), (0, u "Ljdk/internal/misc/Unsafe;"), (8, u "BIG_ENDIAN"), (0, u "Z"), (8, u "LOG2_BYTE_BIT_SIZE"), (4, u "LOG2_ARRAY_INT_INDEX_SCALE"), (54, u "JLA"), (0, u "Ljdk/internal/access/JavaLangAccess;"), (11, u "LOG2_ARRAY_BOOLEAN_INDEX_SCALE"), (9, u "LOG2_ARRAY_BYTE_INDEX_SCALE"), (5, u "LOG2_ARRAY_CHAR_INDEX_SCALE"), (5, u "LOG2_ARRAY_SHORT_INDEX_SCALE"), (18, u "LOG2_ARRAY_FLOAT_INDEX_SCALE"), (24, u "LOG2_ARRAY_DOUBLE_INDEX_SCALE"), (89, u "T_BOOLEAN"), (2, u "T_CHAR"), (1, u "T_FLOAT"), (1, u "T_DOUBLE"), (1, u "T_BYTE"), (1, u "T_SHORT"), (1, u "T_INT"), (1, u "T_LONG"), (1, u "SOFT_MAX_ARRAY_LENGTH")] 83

def k13m0 : Method := { name := "<init>", desc := "()V", sig := { parameters := [], returnType := none }, accessFlags := 2, code := none }
/-- jdk/internal/util/ArraysSupport -/
def k13 : Class := { plain "jdk/internal/util/ArraysSupport" (some 0) with
  accessFlags := 33
  interfaces := #[]
  cf := some (fileOf pool13 21 #[] #[{ accessFlags := 2, nameIndex := 9, descriptorIndex := 19, attributes := #[] }] 33 16 #[] #[{ accessFlags := 24, nameIndex := 28, descriptorIndex := 29, attributes := #[] }, { accessFlags := 26, nameIndex := 38, descriptorIndex := 39, attributes := #[] }, { accessFlags := 25, nameIndex := 121, descriptorIndex := 25, attributes := #[] }, { accessFlags := 25, nameIndex := 131, descriptorIndex := 25, attributes := #[] }, { accessFlags := 25, nameIndex := 137, descriptorIndex := 25, attributes := #[] }, { accessFlags := 25, nameIndex := 143, descriptorIndex := 25, attributes := #[] }, { accessFlags := 25, nameIndex := 53, descriptorIndex := 25, attributes := #[] }, { accessFlags := 25, nameIndex := 24, descriptorIndex := 25, attributes := #[] }, { accessFlags := 25, nameIndex := 162, descriptorIndex := 25, attributes := #[] }, { accessFlags := 25, nameIndex := 187, descriptorIndex := 25, attributes := #[] }, { accessFlags := 26, nameIndex := 48, descriptorIndex := 25, attributes := #[] }, { accessFlags := 25, nameIndex := 277, descriptorIndex := 25, attributes := #[] }, { accessFlags := 25, nameIndex := 280, descriptorIndex := 25, attributes := #[] }, { accessFlags := 25, nameIndex := 282, descriptorIndex := 25, attributes := #[] }, { accessFlags := 25, nameIndex := 284, descriptorIndex := 25, attributes := #[] }, { accessFlags := 25, nameIndex := 286, descriptorIndex := 25, attributes := #[] }, { accessFlags := 25, nameIndex := 288, descriptorIndex := 25, attributes := #[] }, { accessFlags := 25, nameIndex := 290, descriptorIndex := 25, attributes := #[] }, { accessFlags := 25, nameIndex := 292, descriptorIndex := 25, attributes := #[] }, { accessFlags := 26, nameIndex := 108, descriptorIndex := 109, attributes := #[] }, { accessFlags := 25, nameIndex := 294, descriptorIndex := 25, attributes := #[] }])
  fields := #[{ name := "U", type := (.object "jdk/internal/misc/Unsafe"), accessFlags := 24, slot := 0, constantValue := 0 }, { name := "BIG_ENDIAN", type := .boolean, accessFlags := 26, slot := 1, constantValue := 0 }, { name := "LOG2_ARRAY_BOOLEAN_INDEX_SCALE", type := .int, accessFlags := 25, slot := 2, constantValue := 0 }, { name := "LOG2_ARRAY_BYTE_INDEX_SCALE", type := .int, accessFlags := 25, slot := 3, constantValue := 0 }, { name := "LOG2_ARRAY_CHAR_INDEX_SCALE", type := .int, accessFlags := 25, slot := 4, constantValue := 0 }, { name := "LOG2_ARRAY_SHORT_INDEX_SCALE", type := .int, accessFlags := 25, slot := 5, constantValue := 0 }, { name := "LOG2_ARRAY_INT_INDEX_SCALE", type := .int, accessFlags := 25, slot := 6, constantValue := 0 }, { name := "LOG2_ARRAY_LONG_INDEX_SCALE", type := .int, accessFlags := 25, slot := 7, constantValue := 0 }, { name := "LOG2_ARRAY_FLOAT_INDEX_SCALE", type := .int, accessFlags := 25, slot := 8, constantValue := 0 }, { name := "LOG2_ARRAY_DOUBLE_INDEX_SCALE", type := .int, accessFlags := 25, slot := 9, constantValue := 0 }, { name := "LOG2_BYTE_BIT_SIZE", type := .int, accessFlags := 26, slot := 10, constantValue := 0 }, { name := "T_BOOLEAN", type := .int, accessFlags := 25, slot := 11, constantValue := 0 }, { name := "T_CHAR", type := .int, accessFlags := 25, slot := 12, constantValue := 0 }, { name := "T_FLOAT", type := .int, accessFlags := 25, slot := 13, constantValue := 0 }, { name := "T_DOUBLE", type := .int, accessFlags := 25, slot := 14, constantValue := 0 }, { name := "T_BYTE", type := .int, accessFlags := 25, slot := 15, constantValue := 0 }, { name := "T_SHORT", type := .int, accessFlags := 25, slot := 16, constantValue := 0 }, { name := "T_INT", type := .int, accessFlags := 25, slot := 17, constantValue := 0 }, { name := "T_LONG", type := .int, accessFlags := 25, slot := 18, constantValue := 0 }, { name := "JLA", type := (.object "jdk/internal/access/JavaLangAccess"), accessFlags := 26, slot := 19, constantValue := 0 }, { name := "SOFT_MAX_ARRAY_LENGTH", type := .int, accessFlags := 25, slot := 20, constantValue := 0 }]
  methods := #[k13m0]
  instanceTypes := #[]
  staticTypes := #[(.object "jdk/internal/misc/Unsafe"), .boolean, .int, .int, .int, .int, .int, .int, .int, .int, .int, .int, .int, .int, .int, .int, .int, .int, .int, (.object "jdk/internal/access/JavaLangAccess"), .int]
  resolved := Array.replicate 378 none
  statics := none }

def pool14 : Array CpInfo := pool [(1, u "java/lang/Cloneable"), (0, .class_ 1), (0, u "java/lang/Object"), (0, .class_ 3)] 3

/-- java/lang/Cloneable -/
def k14 : Class := { plain "java/lang/Cloneable" (some 0) with
  accessFlags := 1537
  interfaces := #[]
  cf := some (fileOf pool14 2 #[] #[] 1537 4 #[] #[])
  fields := #[]
  methods := #[]
  instanceTypes := #[]
  staticTypes := #[]
  resolved := Array.replicate 8 none
  statics := none }

/-- the primitive byte -/
def k15 : Class := { plain "byte" none with kind := .primitive 'B', accessFlags := 0x411 }
/-- [B -/
def k16 : Class := { plain "[B" (some 0) with kind := .array 15 .byte, interfaces := #[14, 3], accessFlags := 1041 }

/-- the primitive char -/
def k17 : Class := { plain "char" none with kind := .primitive 'C', accessFlags := 0x411 }
/-- [C -/
def k18 : Class := { plain "[C" (some 0) with kind := .array 17 .char, interfaces := #[14, 3], accessFlags := 1041 }

/-- the primitive int -/
def k19 : Class := { plain "int" none with kind := .primitive 'I', accessFlags := 0x411 }
/-- [I -/
def k20 : Class := { plain "[I" (some 0) with kind := .array 19 .int, interfaces := #[14, 3], accessFlags := 1041 }

def heap : Heap := #[{ cls := 8, slots := #[.long 0, .int 1, .null, .int 0, .null, .int 0, .int 0], vm := .statics 8 },
  { cls := 12, slots := #[.null, .null, .null], vm := .statics 12 }]
def classes : Array Class := #[k0, k1, k2, k3, k4, k5, k6, k7, k8, k9, k10, k11, k12, k13, k14, k15, k16, k17, k18, k19, k20]
def interned : List (Array UInt16 × Addr) := []
def slotsUsed : Nat := 10
def theMethod : MethodId := ⟨1, 2⟩
def args0 : Array Value := #[.int 5, .int 3, .int 65]
def aboutOver (below : List Frame) : State where
  vm := { classes := classes, interned := interned.toArray }
  heap := heap
  slotsUsed := slotsUsed
  threads := #[{ frames := .invoking theMethod args0 :: below }]
def below0 : List Frame := [.native { method := ⟨0, 0⟩, args := #[] }]
def about1 : State := aboutOver below0
def p0 : Program := .bare "" "" ""
def e0 : Env := launch0.env 0 0 0
theorem w_frames : about1.frames = Frame.invoking theMethod args0 :: below0 := rfl
set_option maxRecDepth 65536 in
theorem w_args : argsFit about1.vm theMethod args0 = true := by decide +kernel
set_option maxRecDepth 65536 in
theorem w_heap : heapFits about1 = true := by decide +kernel
set_option maxRecDepth 65536 in
theorem w_runnable : about1.curStatus? = some .runnable := by decide +kernel
set_option maxRecDepth 65536 in
theorem w_alone : about1.alone = true := by decide +kernel
set_option maxRecDepth 65536 in
theorem w_named : about1.methodNamed? x = some theMethod := by decide +kernel
set_option maxRecDepth 65536 in
theorem w_hears : about1.hears theMethod below0 = true := by decide +kernel
set_option maxRecDepth 65536 in
theorem w_ripe : about1.ripe theMethod args0 below0 = true := by decide +kernel
theorem w_running : about1.status = .running := rfl
set_option maxRecDepth 65536 in
theorem w_room : about1.hasRoom e0.platform room_1 = true :=
  launch0.hasRoom_least _ room_1 (by decide +kernel) (by decide +kernel) (by decide +kernel) (by decide +kernel) (by decide +kernel) (by decide +kernel)
theorem allAtoms_all (ts : List Jvm.Cond) (a : Array Jvm.Value) (st : Jvm.State) : (allAtoms ts).before a st = ts.all (fun c => c.before a st) := by
  induction ts with
  | nil => rfl
  | cons c t ih =>
    show (Jvm.Cond.and c (allAtoms t)).before a st = _
    rw [Jvm.Cond.before_and, ih, List.all_cons]
def words1 : List Jvm.Cond := Jvm.Cond.code x code maxLocals ret :: tables_1
/-- a 'code' word, met by the world's own term for the bytes: nothing is compared byte by byte -/
theorem code_word {y : MethodName} {bytes : ByteArray} {mx : Nat} {rt : Option FieldType} {a : Array Value} {s : State} {m : MethodId} {meth : Method} {c : Code} (h1 : s.methodNamed? y = some m) (h2 : s.vm.method? m = some meth) (h3 : meth.code = some c) (h4 : c.code = bytes)
    (h5 : (c.maxLocals == mx && c.exceptionTable.isEmpty && decide (c.maxStack ≤ mostOperands) && decide (meth.sig.returnType = rt) && !meth.locks && decide (parseMethodDescriptor y.desc = some meth.sig)) = true) : (Jvm.Cond.code y bytes mx rt).before a s = true := by
  simp only [Bool.and_eq_true, beq_iff_eq, Bool.not_eq_true', decide_eq_true_eq] at h5
  obtain ⟨⟨⟨⟨⟨g1, g2⟩, g3⟩, g4⟩, g5⟩, g6⟩ := h5
  simp [Cond.before, Cond.holds, Cond.value, h1, h2, h3, h4, g1, g2, g3, g4, g5, g6]
def isCode : Jvm.Cond → Bool
  | .code _ _ _ _ => true
  | _ => false
theorem all_split {L : List Jvm.Cond} {P : Jvm.Cond → Bool} (h1 : L.all (fun c => isCode c || P c) = true) (h2 : ∀ c ∈ L.filter isCode, P c = true) : L.all P = true := by
  refine List.all_eq_true.mpr fun c hc => ?_
  have h := List.all_eq_true.mp h1 c hc
  rcases Bool.eq_false_or_eq_true (isCode c) with hi | hi
  · exact h2 c (List.mem_filter.mpr ⟨hc, hi⟩)
  · simpa [hi] using h
set_option maxRecDepth 65536 in
theorem w_c0 : (Jvm.Cond.code x code maxLocals ret).before args0 about1 = true := code_word (m := ⟨1, 2⟩) (meth := k1m2) (c := k1c2) (by decide +kernel) rfl rfl rfl (by decide +kernel)
set_option maxRecDepth 65536 in
theorem w_c1 : (Jvm.Cond.code ({ cls := "com/example/kartoteka/kartoteka/model/StoredRecordIsControlPinLaw", name := "pick", desc := "(I)C" } : Jvm.MethodName) method_2_code (1 : Nat) (Option.some Jvm.ClassFile.FieldType.char)).before args0 about1 = true := code_word (m := ⟨1, 1⟩) (meth := k1m1) (c := k1c1) (by decide +kernel) rfl rfl rfl (by decide +kernel)
set_option maxRecDepth 65536 in
theorem w_c2 : (Jvm.Cond.code ({ cls := "com/example/kartoteka/kartoteka/model/StoredRecord", name := "<init>", desc := "(I)V" } : Jvm.MethodName) prog_73_method_1_code (2 : Nat) (Option.none : Option Jvm.ClassFile.FieldType)).before args0 about1 = true := code_word (m := ⟨2, 0⟩) (meth := k2m0) (c := k2c0) (by decide +kernel) rfl rfl rfl (by decide +kernel)
set_option maxRecDepth 65536 in
theorem w_c3 : (Jvm.Cond.code ({ cls := "java/lang/Object", name := "<init>", desc := "()V" } : Jvm.MethodName) object_method_1_code (1 : Nat) (Option.none : Option Jvm.ClassFile.FieldType)).before args0 about1 = true := code_word (m := ⟨0, 0⟩) (meth := k0m0) (c := k0c0) (by decide +kernel) rfl rfl rfl (by decide +kernel)
set_option maxRecDepth 65536 in
theorem w_c4 : (Jvm.Cond.code ({ cls := "com/example/kartoteka/kartoteka/model/StoredRecord", name := "room", desc := "(I)[B" } : Jvm.MethodName) prog_73_method_4_code (2 : Nat) (Option.some (Jvm.ClassFile.FieldType.array Jvm.ClassFile.FieldType.byte))).before args0 about1 = true := code_word (m := ⟨2, 1⟩) (meth := k2m1) (c := k2c1) (by decide +kernel) rfl rfl rfl (by decide +kernel)
set_option maxRecDepth 65536 in
theorem w_c5 : (Jvm.Cond.code ({ cls := "com/example/kartoteka/kartoteka/model/StoredRecord", name := "add", desc := "(III)V" } : Jvm.MethodName) prog_73_method_6_code (5 : Nat) (Option.none : Option Jvm.ClassFile.FieldType)).before args0 about1 = true := code_word (m := ⟨2, 2⟩) (meth := k2m2) (c := k2c2) (by decide +kernel) rfl rfl rfl (by decide +kernel)
set_option maxRecDepth 65536 in
theorem w_c6 : (Jvm.Cond.code ({ cls := "java/lang/String", name := "<init>", desc := "([C)V" } : Jvm.MethodName) jdk_42_method_3_code (2 : Nat) (Option.none : Option Jvm.ClassFile.FieldType)).before args0 about1 = true := code_word (m := ⟨8, 1⟩) (meth := k8m1) (c := k8c1) (by decide +kernel) rfl rfl rfl (by decide +kernel)
set_option maxRecDepth 65536 in
theorem w_c7 : (Jvm.Cond.code ({ cls := "java/lang/String", name := "<init>", desc := "([CIILjava/lang/Void;)V" } : Jvm.MethodName) jdk_42_method_149_code (6 : Nat) (Option.none : Option Jvm.ClassFile.FieldType)).before args0 about1 = true := code_word (m := ⟨8, 4⟩) (meth := k8m4) (c := k8c4) (by decide +kernel) rfl rfl rfl (by decide +kernel)
set_option maxRecDepth 65536 in
theorem w_c8 : (Jvm.Cond.code ({ cls := "java/lang/StringUTF16", name := "compress", desc := "([CII)[B" } : Jvm.MethodName) jdk_52_method_16_code (6 : Nat) (Option.some (Jvm.ClassFile.FieldType.array Jvm.ClassFile.FieldType.byte))).before args0 about1 = true := code_word (m := ⟨9, 2⟩) (meth := k9m2) (c := k9c2) (by decide +kernel) rfl rfl rfl (by decide +kernel)
set_option maxRecDepth 65536 in
theorem w_c9 : (Jvm.Cond.code ({ cls := "java/lang/StringUTF16", name := "compress", desc := "([CI[BII)I" } : Jvm.MethodName) jdk_52_method_21_code (7 : Nat) (Option.some Jvm.ClassFile.FieldType.int)).before args0 about1 = true := code_word (m := ⟨9, 3⟩) (meth := k9m3) (c := k9c3) (by decide +kernel) rfl rfl rfl (by decide +kernel)
set_option maxRecDepth 65536 in
theorem w_c10 : (Jvm.Cond.code ({ cls := "java/lang/StringUTF16", name := "coderFromArrayLen", desc := "([BI)B" } : Jvm.MethodName) jdk_52_method_15_code (2 : Nat) (Option.some Jvm.ClassFile.FieldType.byte)).before args0 about1 = true := code_word (m := ⟨9, 1⟩) (meth := k9m1) (c := k9c1) (by decide +kernel) rfl rfl rfl (by decide +kernel)
set_option maxRecDepth 65536 in
theorem w_c11 : (Jvm.Cond.code ({ cls := "com/example/kartoteka/kartoteka/model/Field", name := "isControlTag", desc := "(Ljava/lang/CharSequence;)Z" } : Jvm.MethodName) prog_67_method_9_code (1 : Nat) (Option.some Jvm.ClassFile.FieldType.boolean)).before args0 about1 = true := code_word (m := ⟨10, 0⟩) (meth := k10m0) (c := k10c0) (by decide +kernel) rfl rfl rfl (by decide +kernel)
set_option maxRecDepth 65536 in
theorem w_c12 : (Jvm.Cond.code ({ cls := "java/lang/String", name := "length", desc := "()I" } : Jvm.MethodName) jdk_42_method_54_code (1 : Nat) (Option.some Jvm.ClassFile.FieldType.int)).before args0 about1 = true := code_word (m := ⟨8, 2⟩) (meth := k8m2) (c := k8c2) (by decide +kernel) rfl rfl rfl (by decide +kernel)
set_option maxRecDepth 65536 in
theorem w_c13 : (Jvm.Cond.code ({ cls := "java/lang/String", name := "coder", desc := "()B" } : Jvm.MethodName) jdk_42_method_152_code (1 : Nat) (Option.some Jvm.ClassFile.FieldType.byte)).before args0 about1 = true := code_word (m := ⟨8, 5⟩) (meth := k8m5) (c := k8c5) (by decide +kernel) rfl rfl rfl (by decide +kernel)
set_option maxRecDepth 65536 in
theorem w_c14 : (Jvm.Cond.code ({ cls := "java/lang/String", name := "charAt", desc := "(I)C" } : Jvm.MethodName) jdk_42_method_56_code (2 : Nat) (Option.some Jvm.ClassFile.FieldType.char)).before args0 about1 = true := code_word (m := ⟨8, 3⟩) (meth := k8m3) (c := k8c3) (by decide +kernel) rfl rfl rfl (by decide +kernel)
set_option maxRecDepth 65536 in
theorem w_c15 : (Jvm.Cond.code ({ cls := "java/lang/String", name := "isLatin1", desc := "()Z" } : Jvm.MethodName) jdk_42_method_154_code (1 : Nat) (Option.some Jvm.ClassFile.FieldType.boolean)).before args0 about1 = true := code_word (m := ⟨8, 6⟩) (meth := k8m6) (c := k8c6) (by decide +kernel) rfl rfl rfl (by decide +kernel)
set_option maxRecDepth 65536 in
theorem w_c16 : (Jvm.Cond.code ({ cls := "java/lang/StringLatin1", name := "charAt", desc := "([BI)C" } : Jvm.MethodName) jdk_43_method_2_code (2 : Nat) (Option.some Jvm.ClassFile.FieldType.char)).before args0 about1 = true := code_word (m := ⟨11, 1⟩) (meth := k11m1) (c := k11c1) (by decide +kernel) rfl rfl rfl (by decide +kernel)
set_option maxRecDepth 65536 in
theorem w_c17 : (Jvm.Cond.code ({ cls := "java/lang/String", name := "checkIndex", desc := "(II)V" } : Jvm.MethodName) jdk_42_method_155_code (2 : Nat) (Option.none : Option Jvm.ClassFile.FieldType)).before args0 about1 = true := code_word (m := ⟨8, 7⟩) (meth := k8m7) (c := k8c7) (by decide +kernel) rfl rfl rfl (by decide +kernel)
set_option maxRecDepth 65536 in
theorem w_c18 : (Jvm.Cond.code ({ cls := "jdk/internal/util/Preconditions", name := "checkIndex", desc := "(IILjava/util/function/BiFunction;)I" } : Jvm.MethodName) jdk_41_method_11_code (3 : Nat) (Option.some Jvm.ClassFile.FieldType.int)).before args0 about1 = true := code_word (m := ⟨12, 1⟩) (meth := k12m1) (c := k12c1) (by decide +kernel) rfl rfl rfl (by decide +kernel)
set_option maxRecDepth 65536 in
theorem w_c19 : (Jvm.Cond.code ({ cls := "com/example/kartoteka/kartoteka/model/StoredRecord", name := "isControl", desc := "(I)Z" } : Jvm.MethodName) prog_73_method_11_code (3 : Nat) (Option.some Jvm.ClassFile.FieldType.boolean)).before args0 about1 = true := code_word (m := ⟨2, 3⟩) (meth := k2m3) (c := k2c3) (by decide +kernel) rfl rfl rfl (by decide +kernel)
def codes1 : List Jvm.Cond := [Jvm.Cond.code x code maxLocals ret, Jvm.Cond.code ({ cls := "com/example/kartoteka/kartoteka/model/StoredRecordIsControlPinLaw", name := "pick", desc := "(I)C" } : Jvm.MethodName) method_2_code (1 : Nat) (Option.some Jvm.ClassFile.FieldType.char), Jvm.Cond.code ({ cls := "com/example/kartoteka/kartoteka/model/StoredRecord", name := "<init>", desc := "(I)V" } : Jvm.MethodName) prog_73_method_1_code (2 : Nat) (Option.none : Option Jvm.ClassFile.FieldType), Jvm.Cond.code ({ cls := "java/lang/Object", name := "<init>", desc := "()V" } : Jvm.MethodName) object_method_1_code (1 : Nat) (Option.none : Option Jvm.ClassFile.FieldType), Jvm.Cond.code ({ cls := "com/example/kartoteka/kartoteka/model/StoredRecord", name := "room", desc := "(I)[B" } : Jvm.MethodName) prog_73_method_4_code (2 : Nat) (Option.some (Jvm.ClassFile.FieldType.array Jvm.ClassFile.FieldType.byte)), Jvm.Cond.code ({ cls := "com/example/kartoteka/kartoteka/model/StoredRecord", name := "add", desc := "(III)V" } : Jvm.MethodName) prog_73_method_6_code (5 : Nat) (Option.none : Option Jvm.ClassFile.FieldType), Jvm.Cond.code ({ cls := "java/lang/String", name := "<init>", desc := "([C)V" } : Jvm.MethodName) jdk_42_method_3_code (2 : Nat) (Option.none : Option Jvm.ClassFile.FieldType), Jvm.Cond.code ({ cls := "java/lang/String", name := "<init>", desc := "([CIILjava/lang/Void;)V" } : Jvm.MethodName) jdk_42_method_149_code (6 : Nat) (Option.none : Option Jvm.ClassFile.FieldType), Jvm.Cond.code ({ cls := "java/lang/StringUTF16", name := "compress", desc := "([CII)[B" } : Jvm.MethodName) jdk_52_method_16_code (6 : Nat) (Option.some (Jvm.ClassFile.FieldType.array Jvm.ClassFile.FieldType.byte)), Jvm.Cond.code ({ cls := "java/lang/StringUTF16", name := "compress", desc := "([CI[BII)I" } : Jvm.MethodName) jdk_52_method_21_code (7 : Nat) (Option.some Jvm.ClassFile.FieldType.int), Jvm.Cond.code ({ cls := "java/lang/StringUTF16", name := "coderFromArrayLen", desc := "([BI)B" } : Jvm.MethodName) jdk_52_method_15_code (2 : Nat) (Option.some Jvm.ClassFile.FieldType.byte), Jvm.Cond.code ({ cls := "com/example/kartoteka/kartoteka/model/Field", name := "isControlTag", desc := "(Ljava/lang/CharSequence;)Z" } : Jvm.MethodName) prog_67_method_9_code (1 : Nat) (Option.some Jvm.ClassFile.FieldType.boolean), Jvm.Cond.code ({ cls := "java/lang/String", name := "length", desc := "()I" } : Jvm.MethodName) jdk_42_method_54_code (1 : Nat) (Option.some Jvm.ClassFile.FieldType.int), Jvm.Cond.code ({ cls := "java/lang/String", name := "coder", desc := "()B" } : Jvm.MethodName) jdk_42_method_152_code (1 : Nat) (Option.some Jvm.ClassFile.FieldType.byte), Jvm.Cond.code ({ cls := "java/lang/String", name := "charAt", desc := "(I)C" } : Jvm.MethodName) jdk_42_method_56_code (2 : Nat) (Option.some Jvm.ClassFile.FieldType.char), Jvm.Cond.code ({ cls := "java/lang/String", name := "isLatin1", desc := "()Z" } : Jvm.MethodName) jdk_42_method_154_code (1 : Nat) (Option.some Jvm.ClassFile.FieldType.boolean), Jvm.Cond.code ({ cls := "java/lang/StringLatin1", name := "charAt", desc := "([BI)C" } : Jvm.MethodName) jdk_43_method_2_code (2 : Nat) (Option.some Jvm.ClassFile.FieldType.char), Jvm.Cond.code ({ cls := "java/lang/String", name := "checkIndex", desc := "(II)V" } : Jvm.MethodName) jdk_42_method_155_code (2 : Nat) (Option.none : Option Jvm.ClassFile.FieldType), Jvm.Cond.code ({ cls := "jdk/internal/util/Preconditions", name := "checkIndex", desc := "(IILjava/util/function/BiFunction;)I" } : Jvm.MethodName) jdk_41_method_11_code (3 : Nat) (Option.some Jvm.ClassFile.FieldType.int), Jvm.Cond.code ({ cls := "com/example/kartoteka/kartoteka/model/StoredRecord", name := "isControl", desc := "(I)Z" } : Jvm.MethodName) prog_73_method_11_code (3 : Nat) (Option.some Jvm.ClassFile.FieldType.boolean)]
set_option maxRecDepth 65536 in
theorem codes_eq : words1.filter isCode = codes1 := rfl
theorem w_codes : ∀ c ∈ words1.filter isCode, c.before args0 about1 = true := by
  rw [codes_eq]
  intro c hc
  simp only [codes1, List.mem_cons, List.not_mem_nil, or_false] at hc
  rcases hc with rfl | rfl | rfl | rfl | rfl | rfl | rfl | rfl | rfl | rfl | rfl | rfl | rfl | rfl | rfl | rfl | rfl | rfl | rfl | rfl
  · exact w_c0
  · exact w_c1
  · exact w_c2
  · exact w_c3
  · exact w_c4
  · exact w_c5
  · exact w_c6
  · exact w_c7
  · exact w_c8
  · exact w_c9
  · exact w_c10
  · exact w_c11
  · exact w_c12
  · exact w_c13
  · exact w_c14
  · exact w_c15
  · exact w_c16
  · exact w_c17
  · exact w_c18
  · exact w_c19
set_option maxRecDepth 65536 in
theorem w_t1 : (words1.take 24).all (fun c => isCode c || c.before args0 about1) = true := by decide +kernel
set_option maxRecDepth 65536 in
theorem w_t2 : ((words1.drop 24).take 24).all (fun c => isCode c || c.before args0 about1) = true := by decide +kernel
set_option maxRecDepth 65536 in
theorem w_t3 : (((words1.drop 24).drop 24).take 24).all (fun c => isCode c || c.before args0 about1) = true := by decide +kernel
set_option maxRecDepth 65536 in
theorem w_t4 : ((((words1.drop 24).drop 24).drop 24).take 24).all (fun c => isCode c || c.before args0 about1) = true := by decide +kernel
set_option maxRecDepth 65536 in
theorem w_t5 : ((((words1.drop 24).drop 24).drop 24).drop 24).all (fun c => isCode c || c.before args0 about1) = true := by decide +kernel
theorem w_tables : (allAtoms (Jvm.Cond.code x code maxLocals ret :: tables_1)).before args0 about1 = true := by
  rw [allAtoms_all]
  show words1.all (fun c => c.before args0 about1) = true
  refine all_split ?_ w_codes
  rw [← List.take_append_drop 24 words1, List.all_append, w_t1, ← List.take_append_drop 24 (words1.drop 24), List.all_append, w_t2, ← List.take_append_drop 24 ((words1.drop 24).drop 24), List.all_append, w_t3, ← List.take_append_drop 24 (((words1.drop 24).drop 24).drop 24), List.all_append, w_t4, w_t5]
  rfl
set_option maxRecDepth 65536 in
theorem w_rest : rest_1_c.before args0 about1 = true := by decide +kernel
set_option maxRecDepth 65536 in
theorem w_case : (Jvm.Cond.and given_1 narrow_1).before args0 about1 = true := by decide +kernel
theorem w_applies : (headSpec (Jvm.Cond.code x code maxLocals ret :: tables_1) room_1).applies x e0.platform about1 = true :=
  (Spec.applies_iff w_frames).mpr ⟨w_running, w_runnable, w_alone, w_named, w_hears, w_ripe, w_room, w_tables⟩
theorem atStart : AtStart classFile x code maxLocals ret World_1 tables_1 room_1 Calls_1 rest_1 Pre_1 launch0 p0 e0 about1 theMethod args0 below0 :=
  ⟨lists_1, trivial, launch0.admits_env _ _ _, launch0.least_env, fairChoices_fair.cas, fairChoices_fair.clock, w_frames, w_args, w_heap, w_applies, trivial, w_rest, w_case⟩
end start1
theorem witness_1 : WitnessClaimed_1 := ⟨start1.p0, start1.e0, start1.about1, start1.theMethod, start1.args0, start1.below0, start1.atStart⟩
end Jvm.Pilot.@@N@@
