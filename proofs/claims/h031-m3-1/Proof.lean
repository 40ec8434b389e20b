import JvmDerived
import JvmDerived.Pilot.@@N@@Statement
import JvmDerived.Pilot.@@N@@Code
set_option linter.unusedVariables false
set_option linter.unusedSimpArgs false
namespace Jvm.RoadKit
open Sem ClassFile Op Lib Jvm.Stand Jvm.Free Jvm.LawKit
section Own
variable {p : Program} {l : Launch} {e : Env} {R : Room} {s : State} {m : MethodId} {args : Array Value} {below : List Frame} {meth : Method} {c : Code} {Z : State} {a0 : Array Value}
/-- what a body's walk stands on -/
def OC (p : Program) (s : State) (m : MethodId) (meth : Method) (c : Code) (Z : State) (own nm : String) (bytes : ByteArray) (ml : Nat) (ret : Option FieldType) : Prop :=
  p.tables.exec = Jvm.exec ∧ c.code = bytes ∧ Z.Warmed39 s.vm ∧ s.vm.findClass own = some m.cls ∧ c.maxLocals = ml ∧ meth.sig.returnType = ret ∧ meth.locks = false ∧ meth.name = nm
/-- where the walk stands: the heap, what has been made, what has been written -/
def OS (p : Program) (l : Launch) (e : Env) (R : Room) (s : State) (m : MethodId) (args : Array Value) (below : List Frame) (meth : Method) (c : Code) (n0 : Nat) (h : Heap) (cl sl : Nat) (T : State) (locs : List Loc) : Prop :=
  ∃ vm0 k0, Stand p l e R (s.setVm vm0) m args below meth c T locs cl sl ∧ Fr n0 locs ∧ T.heap = h ∧ cl ≤ R.cells ∧ sl ≤ R.slots ∧ s.Since vm0 k0 ∧ k0 ≤ h.size
/-- a run that leaves the heap as it is: from the frame g to the frame g' -/
def OG (p : Program) (l : Launch) (e : Env) (R : Room) (s : State) (m : MethodId) (args : Array Value) (below : List Frame) (meth : Method) (c : Code) (n0 : Nat) (h : Heap) (g g' : JFrame) : Prop :=
  ∀ T locs cl sl, OS p l e R s m args below meth c n0 h cl sl T locs →
    ∃ T' locs', OS p l e R s m args below meth c n0 h cl sl T' locs' ∧ ∀ target, Steps p.tables e below (T'.setTop g') target → Steps p.tables e below (T.setTop g) target
/-- what is left to run from the frame g: it returns, and Q holds of what it returns and of the heap -/
def OW (p : Program) (l : Launch) (e : Env) (R : Room) (s : State) (m : MethodId) (args : Array Value) (below : List Frame) (meth : Method) (c : Code) (n0 : Nat) (Q : Option Value → Heap → Prop) (K N : Nat) (h : Heap) (cl sl : Nat) (g : JFrame) : Prop :=
  ∀ T locs, OS p l e R s m args below meth c n0 h cl sl T locs →
    ∃ s₂ o, Steps p.tables e below (T.setTop g) s₂ ∧ s₂.status = .running ∧ Ended s₂ below o ∧ ∃ v L, o = .returned v ∧ (Q v s₂.heap ∧ Fr n0 L) ∧ ReturnedEndW s o s₂ L K N
variable {own nm : String} {bytes : ByteArray} {ml n0 K N : Nat} {ret : Option FieldType} {Q : Option Value → Heap → Prop} {h : Heap} {cl sl : Nat} {g g' g'' : JFrame} {pc pc' : Nat} {ls ls' : Array Slot} {st : List Value}
theorem OG.refl : OG p l e R s m args below meth c n0 h g g := fun T locs _ _ X => ⟨T, locs, X, fun _ k => k⟩
theorem OG.trans (A : OG p l e R s m args below meth c n0 h g g') (B : OG p l e R s m args below meth c n0 h g' g'') : OG p l e R s m args below meth c n0 h g g'' := fun T locs cl sl X => by
  obtain ⟨T1, L1, X1, k1⟩ := A T locs cl sl X
  obtain ⟨T2, L2, X2, k2⟩ := B T1 L1 cl sl X1
  exact ⟨T2, L2, X2, fun t k => k1 t (k2 t k)⟩
theorem OG.ow (A : OG p l e R s m args below meth c n0 h g g') (B : OW p l e R s m args below meth c n0 Q K N h cl sl g') : OW p l e R s m args below meth c n0 Q K N h cl sl g := fun T locs X => by
  obtain ⟨T1, L1, X1, k1⟩ := A T locs cl sl X
  obtain ⟨s₂, o, q, r⟩ := B T1 L1 X1
  exact ⟨s₂, o, k1 _ q, r⟩
theorem OG.cast (A : OG p l e R s m args below meth c n0 h g g') (q : g' = g'') : OG p l e R s m args below meth c n0 h g g'' := q ▸ A
theorem OW.cast (q : g = g') (A : OW p l e R s m args below meth c n0 Q K N h cl sl g') : OW p l e R s m args below meth c n0 Q K N h cl sl g := q ▸ A
theorem OW.more {cl' sl' : Nat} (A : OW p l e R s m args below meth c n0 Q K N h cl' sl' g) (q1 : cl ≤ cl') (q2 : sl ≤ sl') (q3 : cl' ≤ R.cells) (q4 : sl' ≤ R.slots) : OW p l e R s m args below meth c n0 Q K N h cl sl g := fun T locs ⟨vm0, k0, X, r1, r2, _, _, r3⟩ => A T locs ⟨vm0, k0, X.more q1 q2, r1, r2, q3, q4, r3⟩
/-- the two arms of a branch meet -/
theorem OG.ite {α : Type} {P : Prop} [Decidable P] {f : α → JFrame} {x y : α} (A : P → OG p l e R s m args below meth c n0 h g (f x)) (B : ¬ P → OG p l e R s m args below meth c n0 h g (f y)) : OG p l e R s m args below meth c n0 h g (f (if P then x else y)) := by
  by_cases q : P
  · rw [if_pos q]; exact A q
  · rw [if_neg q]; exact B q
theorem OG.of (k : ∀ (s' : State) T locs cl sl, Stand p l e R s' m args below meth c T locs cl sl → ∀ target, Steps p.tables e below (T.setTop g') target → Steps p.tables e below (T.setTop g) target) : OG p l e R s m args below meth c n0 h g g' :=
  fun T locs _ _ X => ⟨T, locs, X, by obtain ⟨vm0, k0, X, -⟩ := X; exact k _ T locs _ _ X⟩
theorem OC.d (C : OC p s m meth c Z own nm bytes ml ret) {r : Except DecodeError (Instr × Nat)} (q : decode bytes pc = r) : decode c.code pc = r := by rw [C.2.1]; exact q
theorem OG.ite0 {P : Prop} [Decidable P] (A : P → OG p l e R s m args below meth c n0 h g g') (B : ¬ P → OG p l e R s m args below meth c n0 h g g') : OG p l e R s m args below meth c n0 h g g' := by
  by_cases q : P
  · exact A q
  · exact B q
theorem OG.ite2 {α β : Type} {P : Prop} [Decidable P] {f : α → β → JFrame} {x y : α} {x' y' : β} (A : P → OG p l e R s m args below meth c n0 h g (f x x')) (B : ¬ P → OG p l e R s m args below meth c n0 h g (f y y')) : OG p l e R s m args below meth c n0 h g (f (if P then x else y) (if P then x' else y')) := by
  by_cases q : P
  · rw [if_pos q, if_pos q]; exact A q
  · rw [if_neg q, if_neg q]; exact B q
theorem OC.lift {vm0 : Vm} {k0 : Nat} (C : OC p s m meth c Z own nm bytes ml ret) (hS : s.Since vm0 k0) : OC p (s.setVm vm0) m meth c Z own nm bytes ml ret :=
  ⟨C.1, C.2.1, State.Warmed39.trans C.2.2.1 hS.1, by rw [show (s.setVm vm0).vm = vm0 from rfl, hS.1.alike.findClass]; exact C.2.2.2.1, C.2.2.2.2⟩
theorem RW.mono {s t : State} {o : Outcome} {L : List Loc} {k n k' n' : Nat} (q : ReturnedEndW s o t L k n) (h1 : k ≤ k') (h2 : n ≤ n') : ReturnedEndW s o t L k' n' := ⟨q.1, q.2.1, q.2.2.1, q.2.2.2.mono h1 h2⟩
theorem OG.iloadN (C : OC p s m meth c Z own nm bytes ml ret) {k : Fin 4} {v : Int32} (hd : decode bytes pc = .ok (.iload_n k, 1)) (hl : ls[k.val]? = some (.val (.int v))) (hp : pc + 1 = pc') : OG p l e R s m args below meth c n0 h (mkF m pc ls st) (mkF m pc' ls (.int v :: st)) := by
  subst hp
  exact OG.of fun s' T locs cl sl X target k => XS.iloadN X.here C.1 rfl (C.d hd) hl k
theorem OG.iload (C : OC p s m meth c Z own nm bytes ml ret) {k : Nat} {v : Int32} (hd : decode bytes pc = .ok (.iload k, 2)) (hl : ls[k]? = some (.val (.int v))) (hp : pc + 2 = pc') : OG p l e R s m args below meth c n0 h (mkF m pc ls st) (mkF m pc' ls (.int v :: st)) := by
  subst hp
  exact OG.of fun s' T locs cl sl X target k => XS.iload X.here C.1 rfl (C.d hd) hl k
theorem OG.lloadN (C : OC p s m meth c Z own nm bytes ml ret) {k : Fin 4} {v : Int64} (hd : decode bytes pc = .ok (.lload_n k, 1)) (hl : ls[k.val]? = some (.val (.long v))) (hp : pc + 1 = pc') : OG p l e R s m args below meth c n0 h (mkF m pc ls st) (mkF m pc' ls (.long v :: st)) := by
  subst hp
  exact OG.of fun s' T locs cl sl X target k => XS.lloadN X.here C.1 rfl (C.d hd) hl k
theorem OG.lload (C : OC p s m meth c Z own nm bytes ml ret) {k : Nat} {v : Int64} (hd : decode bytes pc = .ok (.lload k, 2)) (hl : ls[k]? = some (.val (.long v))) (hp : pc + 2 = pc') : OG p l e R s m args below meth c n0 h (mkF m pc ls st) (mkF m pc' ls (.long v :: st)) := by
  subst hp
  exact OG.of fun s' T locs cl sl X target k => XS.lload X.here C.1 rfl (C.d hd) hl k
theorem OG.aloadN (C : OC p s m meth c Z own nm bytes ml ret) {k : Fin 4} {v : Value} (hd : decode bytes pc = .ok (.aload_n k, 1)) (hl : ls[k.val]? = some (.val v)) (hv : v.isRef = true) (hp : pc + 1 = pc') : OG p l e R s m args below meth c n0 h (mkF m pc ls st) (mkF m pc' ls (v :: st)) := by
  subst hp
  exact OG.of fun s' T locs cl sl X target k => XS.aloadN X.here C.1 rfl (C.d hd) hl hv k
theorem OG.aload (C : OC p s m meth c Z own nm bytes ml ret) {k : Nat} {v : Value} (hd : decode bytes pc = .ok (.aload k, 2)) (hl : ls[k]? = some (.val v)) (hv : v.isRef = true) (hp : pc + 2 = pc') : OG p l e R s m args below meth c n0 h (mkF m pc ls st) (mkF m pc' ls (v :: st)) := by
  subst hp
  exact OG.of fun s' T locs cl sl X target k => XS.aload X.here C.1 rfl (C.d hd) hl hv k
theorem OG.istoreN (C : OC p s m meth c Z own nm bytes ml ret) {k : Fin 4} {v : Int32} (hd : decode bytes pc = .ok (.istore_n k, 1)) (hl : storeLocals ls k.val (.int v) = some ls') (hp : pc + 1 = pc') : OG p l e R s m args below meth c n0 h (mkF m pc ls (.int v :: st)) (mkF m pc' ls' st) := by
  subst hp
  exact OG.of fun s' T locs cl sl X target k => XS.istoreN X.here C.1 rfl (C.d hd) rfl hl k
theorem OG.istore (C : OC p s m meth c Z own nm bytes ml ret) {k : Nat} {v : Int32} (hd : decode bytes pc = .ok (.istore k, 2)) (hl : storeLocals ls k (.int v) = some ls') (hp : pc + 2 = pc') : OG p l e R s m args below meth c n0 h (mkF m pc ls (.int v :: st)) (mkF m pc' ls' st) := by
  subst hp
  exact OG.of fun s' T locs cl sl X target k => XS.istore X.here C.1 rfl (C.d hd) rfl hl k
theorem OG.lstoreN (C : OC p s m meth c Z own nm bytes ml ret) {k : Fin 4} {v : Int64} (hd : decode bytes pc = .ok (.lstore_n k, 1)) (hl : storeLocals ls k.val (.long v) = some ls') (hp : pc + 1 = pc') : OG p l e R s m args below meth c n0 h (mkF m pc ls (.long v :: st)) (mkF m pc' ls' st) := by
  subst hp
  exact OG.of fun s' T locs cl sl X target k => XS.lstoreN X.here C.1 rfl (C.d hd) rfl hl k
theorem OG.lstore (C : OC p s m meth c Z own nm bytes ml ret) {k : Nat} {v : Int64} (hd : decode bytes pc = .ok (.lstore k, 2)) (hl : storeLocals ls k (.long v) = some ls') (hp : pc + 2 = pc') : OG p l e R s m args below meth c n0 h (mkF m pc ls (.long v :: st)) (mkF m pc' ls' st) := by
  subst hp
  exact OG.of fun s' T locs cl sl X target k => XS.lstore X.here C.1 rfl (C.d hd) rfl hl k
theorem OG.astoreN (C : OC p s m meth c Z own nm bytes ml ret) {k : Fin 4} {v : Value} (hd : decode bytes pc = .ok (.astore_n k, 1)) (hv : v.isRef = true) (hl : storeLocals ls k.val v = some ls') (hp : pc + 1 = pc') : OG p l e R s m args below meth c n0 h (mkF m pc ls (v :: st)) (mkF m pc' ls' st) := by
  subst hp
  exact OG.of fun s' T locs cl sl X target k => XS.astoreN X.here C.1 rfl (C.d hd) rfl hv hl k
theorem OG.astore (C : OC p s m meth c Z own nm bytes ml ret) {k : Nat} {v : Value} (hd : decode bytes pc = .ok (.astore k, 2)) (hv : v.isRef = true) (hl : storeLocals ls k v = some ls') (hp : pc + 2 = pc') : OG p l e R s m args below meth c n0 h (mkF m pc ls (v :: st)) (mkF m pc' ls' st) := by
  subst hp
  exact OG.of fun s' T locs cl sl X target k => XS.astore X.here C.1 rfl (C.d hd) rfl hv hl k
theorem OG.iconst (C : OC p s m meth c Z own nm bytes ml ret) {i : Int} {z : Int32} (hd : decode bytes pc = .ok (.iconst i, 1)) (hz : Int32.ofInt i = z) (hp : pc + 1 = pc') : OG p l e R s m args below meth c n0 h (mkF m pc ls st) (mkF m pc' ls (.int z :: st)) := by
  subst hp hz
  exact OG.of fun s' T locs cl sl X target k => XS.iconst X.here C.1 rfl (C.d hd)  k
theorem OG.bipush (C : OC p s m meth c Z own nm bytes ml ret) {i : Int} {z : Int32} (hd : decode bytes pc = .ok (.bipush i, 2)) (hz : (Int8.ofInt i).toInt32 = z) (hp : pc + 2 = pc') : OG p l e R s m args below meth c n0 h (mkF m pc ls st) (mkF m pc' ls (.int z :: st)) := by
  subst hp hz
  exact OG.of fun s' T locs cl sl X target k => XS.bipush X.here C.1 rfl (C.d hd)  k
theorem OG.sipush (C : OC p s m meth c Z own nm bytes ml ret) {i : Int} {z : Int32} (hd : decode bytes pc = .ok (.sipush i, 3)) (hz : (Int16.ofInt i).toInt32 = z) (hp : pc + 3 = pc') : OG p l e R s m args below meth c n0 h (mkF m pc ls st) (mkF m pc' ls (.int z :: st)) := by
  subst hp hz
  exact OG.of fun s' T locs cl sl X target k => XS.sipush X.here C.1 rfl (C.d hd)  k
theorem OG.lconst (C : OC p s m meth c Z own nm bytes ml ret) {i : Fin 2} {z : Int64} (hd : decode bytes pc = .ok (.lconst i, 1)) (hz : Int64.ofNat i = z) (hp : pc + 1 = pc') : OG p l e R s m args below meth c n0 h (mkF m pc ls st) (mkF m pc' ls (.long z :: st)) := by
  subst hp hz
  exact OG.of fun s' T locs cl sl X target k => XS.lconst X.here C.1 rfl (C.d hd)  k
theorem OG.aconst_null (C : OC p s m meth c Z own nm bytes ml ret)  (hd : decode bytes pc = .ok (.aconst_null, 1))  (hp : pc + 1 = pc') : OG p l e R s m args below meth c n0 h (mkF m pc ls st) (mkF m pc' ls (.null :: st)) := by
  subst hp
  exact OG.of fun s' T locs cl sl X target k => XS.aconstNull X.here C.1 rfl (C.d hd)  k
theorem OG.iadd (C : OC p s m meth c Z own nm bytes ml ret) {x y : Int32} (hd : decode bytes pc = .ok (.iadd, 1))  (hp : pc + 1 = pc') : OG p l e R s m args below meth c n0 h (mkF m pc ls (.int y :: .int x :: st)) (mkF m pc' ls (.int (x + y) :: st)) := by
  subst hp
  exact OG.of fun s' T locs cl sl X target k => XS.iadd X.here C.1 rfl (C.d hd) rfl k
theorem OG.ladd (C : OC p s m meth c Z own nm bytes ml ret) {x y : Int64} (hd : decode bytes pc = .ok (.ladd, 1))  (hp : pc + 1 = pc') : OG p l e R s m args below meth c n0 h (mkF m pc ls (.long y :: .long x :: st)) (mkF m pc' ls (.long (x + y) :: st)) := by
  subst hp
  exact OG.of fun s' T locs cl sl X target k => XS.ladd X.here C.1 rfl (C.d hd) rfl k
theorem OG.isub (C : OC p s m meth c Z own nm bytes ml ret) {x y : Int32} (hd : decode bytes pc = .ok (.isub, 1))  (hp : pc + 1 = pc') : OG p l e R s m args below meth c n0 h (mkF m pc ls (.int y :: .int x :: st)) (mkF m pc' ls (.int (x - y) :: st)) := by
  subst hp
  exact OG.of fun s' T locs cl sl X target k => XS.isub X.here C.1 rfl (C.d hd) rfl k
theorem OG.lsub (C : OC p s m meth c Z own nm bytes ml ret) {x y : Int64} (hd : decode bytes pc = .ok (.lsub, 1))  (hp : pc + 1 = pc') : OG p l e R s m args below meth c n0 h (mkF m pc ls (.long y :: .long x :: st)) (mkF m pc' ls (.long (x - y) :: st)) := by
  subst hp
  exact OG.of fun s' T locs cl sl X target k => XS.lsub X.here C.1 rfl (C.d hd) rfl k
theorem OG.imul (C : OC p s m meth c Z own nm bytes ml ret) {x y : Int32} (hd : decode bytes pc = .ok (.imul, 1))  (hp : pc + 1 = pc') : OG p l e R s m args below meth c n0 h (mkF m pc ls (.int y :: .int x :: st)) (mkF m pc' ls (.int (x * y) :: st)) := by
  subst hp
  exact OG.of fun s' T locs cl sl X target k => XS.imul X.here C.1 rfl (C.d hd) rfl k
theorem OG.lmul (C : OC p s m meth c Z own nm bytes ml ret) {x y : Int64} (hd : decode bytes pc = .ok (.lmul, 1))  (hp : pc + 1 = pc') : OG p l e R s m args below meth c n0 h (mkF m pc ls (.long y :: .long x :: st)) (mkF m pc' ls (.long (x * y) :: st)) := by
  subst hp
  exact OG.of fun s' T locs cl sl X target k => XS.lmul X.here C.1 rfl (C.d hd) rfl k
theorem OG.iand (C : OC p s m meth c Z own nm bytes ml ret) {x y : Int32} (hd : decode bytes pc = .ok (.iand, 1))  (hp : pc + 1 = pc') : OG p l e R s m args below meth c n0 h (mkF m pc ls (.int y :: .int x :: st)) (mkF m pc' ls (.int (x &&& y) :: st)) := by
  subst hp
  exact OG.of fun s' T locs cl sl X target k => XS.iand X.here C.1 rfl (C.d hd) rfl k
theorem OG.land (C : OC p s m meth c Z own nm bytes ml ret) {x y : Int64} (hd : decode bytes pc = .ok (.land, 1))  (hp : pc + 1 = pc') : OG p l e R s m args below meth c n0 h (mkF m pc ls (.long y :: .long x :: st)) (mkF m pc' ls (.long (x &&& y) :: st)) := by
  subst hp
  exact OG.of fun s' T locs cl sl X target k => XS.land X.here C.1 rfl (C.d hd) rfl k
theorem OG.ior (C : OC p s m meth c Z own nm bytes ml ret) {x y : Int32} (hd : decode bytes pc = .ok (.ior, 1))  (hp : pc + 1 = pc') : OG p l e R s m args below meth c n0 h (mkF m pc ls (.int y :: .int x :: st)) (mkF m pc' ls (.int (x ||| y) :: st)) := by
  subst hp
  exact OG.of fun s' T locs cl sl X target k => XS.ior X.here C.1 rfl (C.d hd) rfl k
theorem OG.lor (C : OC p s m meth c Z own nm bytes ml ret) {x y : Int64} (hd : decode bytes pc = .ok (.lor, 1))  (hp : pc + 1 = pc') : OG p l e R s m args below meth c n0 h (mkF m pc ls (.long y :: .long x :: st)) (mkF m pc' ls (.long (x ||| y) :: st)) := by
  subst hp
  exact OG.of fun s' T locs cl sl X target k => XS.lor X.here C.1 rfl (C.d hd) rfl k
theorem OG.ixor (C : OC p s m meth c Z own nm bytes ml ret) {x y : Int32} (hd : decode bytes pc = .ok (.ixor, 1))  (hp : pc + 1 = pc') : OG p l e R s m args below meth c n0 h (mkF m pc ls (.int y :: .int x :: st)) (mkF m pc' ls (.int (x ^^^ y) :: st)) := by
  subst hp
  exact OG.of fun s' T locs cl sl X target k => XS.ixor X.here C.1 rfl (C.d hd) rfl k
theorem OG.lxor (C : OC p s m meth c Z own nm bytes ml ret) {x y : Int64} (hd : decode bytes pc = .ok (.lxor, 1))  (hp : pc + 1 = pc') : OG p l e R s m args below meth c n0 h (mkF m pc ls (.long y :: .long x :: st)) (mkF m pc' ls (.long (x ^^^ y) :: st)) := by
  subst hp
  exact OG.of fun s' T locs cl sl X target k => XS.lxor X.here C.1 rfl (C.d hd) rfl k
theorem OG.idiv (C : OC p s m meth c Z own nm bytes ml ret) {x y : Int32} (hd : decode bytes pc = .ok (.idiv, 1)) (hy : y ≠ 0) (hp : pc + 1 = pc') : OG p l e R s m args below meth c n0 h (mkF m pc ls (.int y :: .int x :: st)) (mkF m pc' ls (.int (x / y) :: st)) := by
  subst hp
  exact OG.of fun s' T locs cl sl X target k => XS.idiv X.here C.1 rfl (C.d hd) rfl hy k
theorem OG.ldiv (C : OC p s m meth c Z own nm bytes ml ret) {x y : Int64} (hd : decode bytes pc = .ok (.ldiv, 1)) (hy : y ≠ 0) (hp : pc + 1 = pc') : OG p l e R s m args below meth c n0 h (mkF m pc ls (.long y :: .long x :: st)) (mkF m pc' ls (.long (x / y) :: st)) := by
  subst hp
  exact OG.of fun s' T locs cl sl X target k => XS.ldiv X.here C.1 rfl (C.d hd) rfl hy k
theorem OG.ineg (C : OC p s m meth c Z own nm bytes ml ret) {x : Int32} (hd : decode bytes pc = .ok (.ineg, 1))  (hp : pc + 1 = pc') : OG p l e R s m args below meth c n0 h (mkF m pc ls (.int x :: st)) (mkF m pc' ls (.int (-x) :: st)) := by
  subst hp
  exact OG.of fun s' T locs cl sl X target k => XS.ineg X.here C.1 rfl (C.d hd) rfl k
theorem OG.lneg (C : OC p s m meth c Z own nm bytes ml ret) {x : Int64} (hd : decode bytes pc = .ok (.lneg, 1))  (hp : pc + 1 = pc') : OG p l e R s m args below meth c n0 h (mkF m pc ls (.long x :: st)) (mkF m pc' ls (.long (-x) :: st)) := by
  subst hp
  exact OG.of fun s' T locs cl sl X target k => XS.lneg X.here C.1 rfl (C.d hd) rfl k
theorem OG.i2l (C : OC p s m meth c Z own nm bytes ml ret) {x : Int32} (hd : decode bytes pc = .ok (.i2l, 1))  (hp : pc + 1 = pc') : OG p l e R s m args below meth c n0 h (mkF m pc ls (.int x :: st)) (mkF m pc' ls (.long x.toInt64 :: st)) := by
  subst hp
  exact OG.of fun s' T locs cl sl X target k => XS.i2l X.here C.1 rfl (C.d hd) rfl k
theorem OG.l2i (C : OC p s m meth c Z own nm bytes ml ret) {x : Int64} (hd : decode bytes pc = .ok (.l2i, 1))  (hp : pc + 1 = pc') : OG p l e R s m args below meth c n0 h (mkF m pc ls (.long x :: st)) (mkF m pc' ls (.int x.toInt32 :: st)) := by
  subst hp
  exact OG.of fun s' T locs cl sl X target k => XS.l2i X.here C.1 rfl (C.d hd) rfl k
theorem OG.i2b (C : OC p s m meth c Z own nm bytes ml ret) {x : Int32} (hd : decode bytes pc = .ok (.i2b, 1))  (hp : pc + 1 = pc') : OG p l e R s m args below meth c n0 h (mkF m pc ls (.int x :: st)) (mkF m pc' ls (.int x.toInt8.toInt32 :: st)) := by
  subst hp
  exact OG.of fun s' T locs cl sl X target k => XS.i2b X.here C.1 rfl (C.d hd) rfl k
theorem OG.i2c (C : OC p s m meth c Z own nm bytes ml ret) {x : Int32} (hd : decode bytes pc = .ok (.i2c, 1))  (hp : pc + 1 = pc') : OG p l e R s m args below meth c n0 h (mkF m pc ls (.int x :: st)) (mkF m pc' ls (.int x.toUInt32.toUInt16.toUInt32.toInt32 :: st)) := by
  subst hp
  exact OG.of fun s' T locs cl sl X target k => XS.i2c X.here C.1 rfl (C.d hd) rfl k
theorem OG.i2s (C : OC p s m meth c Z own nm bytes ml ret) {x : Int32} (hd : decode bytes pc = .ok (.i2s, 1))  (hp : pc + 1 = pc') : OG p l e R s m args below meth c n0 h (mkF m pc ls (.int x :: st)) (mkF m pc' ls (.int x.toInt16.toInt32 :: st)) := by
  subst hp
  exact OG.of fun s' T locs cl sl X target k => XS.i2s X.here C.1 rfl (C.d hd) rfl k
theorem OG.ishl (C : OC p s m meth c Z own nm bytes ml ret) {x y : Int32} (hd : decode bytes pc = .ok (.ishl, 1))  (hp : pc + 1 = pc') : OG p l e R s m args below meth c n0 h (mkF m pc ls (.int y :: .int x :: st)) (mkF m pc' ls (.int (x <<< (y &&& 31)) :: st)) := by
  subst hp
  exact OG.of fun s' T locs cl sl X target k => XS.ishl X.here C.1 rfl (C.d hd) rfl k
theorem OG.ishr (C : OC p s m meth c Z own nm bytes ml ret) {x y : Int32} (hd : decode bytes pc = .ok (.ishr, 1))  (hp : pc + 1 = pc') : OG p l e R s m args below meth c n0 h (mkF m pc ls (.int y :: .int x :: st)) (mkF m pc' ls (.int (x >>> (y &&& 31)) :: st)) := by
  subst hp
  exact OG.of fun s' T locs cl sl X target k => XS.ishr X.here C.1 rfl (C.d hd) rfl k
theorem OG.iushr (C : OC p s m meth c Z own nm bytes ml ret) {x y : Int32} (hd : decode bytes pc = .ok (.iushr, 1))  (hp : pc + 1 = pc') : OG p l e R s m args below meth c n0 h (mkF m pc ls (.int y :: .int x :: st)) (mkF m pc' ls (.int (x.toUInt32 >>> (y &&& 31).toUInt32).toInt32 :: st)) := by
  subst hp
  exact OG.of fun s' T locs cl sl X target k => XS.iushr X.here C.1 rfl (C.d hd) rfl k
theorem OG.lshl (C : OC p s m meth c Z own nm bytes ml ret) {x : Int64} {y : Int32} (hd : decode bytes pc = .ok (.lshl, 1))  (hp : pc + 1 = pc') : OG p l e R s m args below meth c n0 h (mkF m pc ls (.int y :: .long x :: st)) (mkF m pc' ls (.long (x <<< (y &&& 0x3f).toInt64) :: st)) := by
  subst hp
  exact OG.of fun s' T locs cl sl X target k => XS.lshl X.here C.1 rfl (C.d hd) rfl k
theorem OG.lshr (C : OC p s m meth c Z own nm bytes ml ret) {x : Int64} {y : Int32} (hd : decode bytes pc = .ok (.lshr, 1))  (hp : pc + 1 = pc') : OG p l e R s m args below meth c n0 h (mkF m pc ls (.int y :: .long x :: st)) (mkF m pc' ls (.long (x >>> (y &&& 0x3f).toInt64) :: st)) := by
  subst hp
  exact OG.of fun s' T locs cl sl X target k => XS.lshr X.here C.1 rfl (C.d hd) rfl k
theorem OG.lushr (C : OC p s m meth c Z own nm bytes ml ret) {x : Int64} {y : Int32} (hd : decode bytes pc = .ok (.lushr, 1))  (hp : pc + 1 = pc') : OG p l e R s m args below meth c n0 h (mkF m pc ls (.int y :: .long x :: st)) (mkF m pc' ls (.long (x.toUInt64 >>> (y &&& 0x3f).toInt64.toUInt64).toInt64 :: st)) := by
  subst hp
  exact OG.of fun s' T locs cl sl X target k => XS.lushr X.here C.1 rfl (C.d hd) rfl k
theorem OG.lcmp (C : OC p s m meth c Z own nm bytes ml ret) {x y : Int64} (hd : decode bytes pc = .ok (.lcmp, 1))  (hp : pc + 1 = pc') : OG p l e R s m args below meth c n0 h (mkF m pc ls (.long y :: .long x :: st)) (mkF m pc' ls (.int (lcmpW x y) :: st)) := by
  subst hp
  exact OG.of fun s' T locs cl sl X target k => XS.lcmp X.here C.1 rfl (C.d hd) rfl k
theorem OG.dup (C : OC p s m meth c Z own nm bytes ml ret) {x : Value} (hd : decode bytes pc = .ok (.dup, 1)) (hc : x.category = 1) (hp : pc + 1 = pc') : OG p l e R s m args below meth c n0 h (mkF m pc ls (x :: st)) (mkF m pc' ls (x :: x :: st)) := by
  subst hp
  exact OG.of fun s' T locs cl sl X target k => XS.dup X.here C.1 rfl (C.d hd) rfl hc k
theorem OG.pop (C : OC p s m meth c Z own nm bytes ml ret) {x : Value} (hd : decode bytes pc = .ok (.pop, 1)) (hc : x.category = 1) (hp : pc + 1 = pc') : OG p l e R s m args below meth c n0 h (mkF m pc ls (x :: st)) (mkF m pc' ls st) := by
  subst hp
  exact OG.of fun s' T locs cl sl X target k => XS.pop X.here C.1 rfl (C.d hd) rfl hc k
theorem OG.iinc (C : OC p s m meth c Z own nm bytes ml ret) {k : Nat} {i : Int} {x z : Int32} (hd : decode bytes pc = .ok (.iinc k i, 3)) (hz : Int32.ofInt i = z) (hl : ls[k]? = some (.val (.int x))) (hl' : storeLocals ls k (.int (x + z)) = some ls') (hp : pc + 3 = pc') : OG p l e R s m args below meth c n0 h (mkF m pc ls st) (mkF m pc' ls' st) := by
  subst hp hz
  exact OG.of fun s' T locs cl sl X target k => XS.iinc X.here C.1 rfl (C.d hd) hl hl' k
theorem OG.goto (C : OC p s m meth c Z own nm bytes ml ret) {o : Int} (hd : decode bytes pc = .ok (.goto o, 3)) (ho : 0 ≤ (pc : Int) + o) (hp : ((pc : Int) + o).toNat = pc') : OG p l e R s m args below meth c n0 h (mkF m pc ls st) (mkF m pc' ls st) := OG.of fun s' T locs cl sl X target k => XS.goto X.here C.1 rfl (pc0 := pc) rfl (C.d hd) ho hp k
theorem OG.ifYes (C : OC p s m meth c Z own nm bytes ml ret) {o : Int} {cd : ClassFile.Cond} {x : Int32} (hd : decode bytes pc = .ok (.ifCond cd o, 3)) (hc : ifCond.holds cd x = true) (ho : 0 ≤ (pc : Int) + o) (hp : ((pc : Int) + o).toNat = pc') : OG p l e R s m args below meth c n0 h (mkF m pc ls (.int x :: st)) (mkF m pc' ls st) := OG.of fun s' T locs cl sl X target k => XS.ifYes X.here C.1 rfl (pc0 := pc) rfl (C.d hd) rfl hc ho hp k
theorem OG.ifNo (C : OC p s m meth c Z own nm bytes ml ret) {o : Int} {cd : ClassFile.Cond} {x : Int32} (hd : decode bytes pc = .ok (.ifCond cd o, 3)) (hc : ifCond.holds cd x = false) (hp : pc + 3 = pc') : OG p l e R s m args below meth c n0 h (mkF m pc ls (.int x :: st)) (mkF m pc' ls st) := by
  subst hp
  exact OG.of fun s' T locs cl sl X target k => XS.ifNo X.here C.1 rfl (C.d hd) rfl hc k
theorem OG.icmpYes (C : OC p s m meth c Z own nm bytes ml ret) {o : Int} {cd : ClassFile.Cond} {x y : Int32} (hd : decode bytes pc = .ok (.if_icmp cd o, 3)) (hc : if_icmp.holds cd x y = true) (ho : 0 ≤ (pc : Int) + o) (hp : ((pc : Int) + o).toNat = pc') : OG p l e R s m args below meth c n0 h (mkF m pc ls (.int y :: .int x :: st)) (mkF m pc' ls st) := OG.of fun s' T locs cl sl X target k => XS.icmpYes X.here C.1 rfl (pc0 := pc) rfl (C.d hd) rfl hc ho hp k
theorem OG.icmpNo (C : OC p s m meth c Z own nm bytes ml ret) {o : Int} {cd : ClassFile.Cond} {x y : Int32} (hd : decode bytes pc = .ok (.if_icmp cd o, 3)) (hc : if_icmp.holds cd x y = false) (hp : pc + 3 = pc') : OG p l e R s m args below meth c n0 h (mkF m pc ls (.int y :: .int x :: st)) (mkF m pc' ls st) := by
  subst hp
  exact OG.of fun s' T locs cl sl X target k => XS.icmpNo X.here C.1 rfl (C.d hd) rfl hc k
theorem OG.ifnullYes (C : OC p s m meth c Z own nm bytes ml ret) {o : Int}  (hd : decode bytes pc = .ok (.ifnull o, 3))  (ho : 0 ≤ (pc : Int) + o) (hp : ((pc : Int) + o).toNat = pc') : OG p l e R s m args below meth c n0 h (mkF m pc ls (.null :: st)) (mkF m pc' ls st) := OG.of fun s' T locs cl sl X target k => XS.ifnullYes X.here C.1 rfl (pc0 := pc) rfl (C.d hd) rfl ho hp k
theorem OG.ifnullNo (C : OC p s m meth c Z own nm bytes ml ret) {o : Int} {b : Addr} (hd : decode bytes pc = .ok (.ifnull o, 3))  (hp : pc + 3 = pc') : OG p l e R s m args below meth c n0 h (mkF m pc ls (.ref b :: st)) (mkF m pc' ls st) := by
  subst hp
  exact OG.of fun s' T locs cl sl X target k => XS.ifnullNo X.here C.1 rfl (C.d hd) rfl k
theorem OG.ifnonnullYes (C : OC p s m meth c Z own nm bytes ml ret) {o : Int} {b : Addr} (hd : decode bytes pc = .ok (.ifnonnull o, 3))  (ho : 0 ≤ (pc : Int) + o) (hp : ((pc : Int) + o).toNat = pc') : OG p l e R s m args below meth c n0 h (mkF m pc ls (.ref b :: st)) (mkF m pc' ls st) := OG.of fun s' T locs cl sl X target k => XS.ifnonnullYes X.here C.1 rfl (pc0 := pc) rfl (C.d hd) rfl ho hp k
theorem OG.ifnonnullNo (C : OC p s m meth c Z own nm bytes ml ret) {o : Int}  (hd : decode bytes pc = .ok (.ifnonnull o, 3))  (hp : pc + 3 = pc') : OG p l e R s m args below meth c n0 h (mkF m pc ls (.null :: st)) (mkF m pc' ls st) := by
  subst hp
  exact OG.of fun s' T locs cl sl X target k => XS.ifnonnullNo X.here C.1 rfl (C.d hd) rfl k
theorem OG.irem (C : OC p s m meth c Z own nm bytes ml ret) {x y : Int32} (hd : decode bytes pc = .ok (.irem, 1)) (hy : y ≠ 0) (hp : pc + 1 = pc') : OG p l e R s m args below meth c n0 h (mkF m pc ls (.int y :: .int x :: st)) (mkF m pc' ls (.int (x % y) :: st)) := by
  subst hp
  refine OG.of fun s' T locs cl sl X target k => XS.irem X.here C.1 rfl (C.d hd) rfl hy ?_
  rw [irem_eq_mod x y]; exact k
theorem OG.lrem (C : OC p s m meth c Z own nm bytes ml ret) {x y : Int64} (hd : decode bytes pc = .ok (.lrem, 1)) (hy : y ≠ 0) (hp : pc + 1 = pc') : OG p l e R s m args below meth c n0 h (mkF m pc ls (.long y :: .long x :: st)) (mkF m pc' ls (.long (x % y) :: st)) := by
  subst hp
  refine OG.of fun s' T locs cl sl X target k => XS.lrem X.here C.1 rfl (C.d hd) rfl hy ?_
  rw [lrem_mod x y]; exact k
theorem OG.acmp (C : OC p s m meth c Z own nm bytes ml ret) {o : Int} {cd : ACond} {x y : Value} {same : Bool} (hd : decode bytes pc = .ok (.if_acmp cd o, 3)) (h1 : x.isRef = true) (h2 : y.isRef = true) (hq : decide (x = y) = same) (ho : 0 ≤ (pc : Int) + o) (hp : pc' = if acV cd same = true then ((pc : Int) + o).toNat else pc + 3) :
    OG p l e R s m args below meth c n0 h (mkF m pc ls (y :: x :: st)) (mkF m pc' ls st) :=
  OG.of fun s' T locs cl sl X target k => RoadKit.acmp X C.1 rfl h1 h2 (pc0 := pc) rfl (C.d hd) rfl hq ho hp k
theorem OG.ldcI (C : OC p s m meth c Z own nm bytes ml ret) {i : Nat} {v : Int32} (w : (Cond.constant own i v).before a0 Z = true) (hd : decode bytes pc = .ok (.ldc i, 2)) (hp : pc + 2 = pc') : OG p l e R s m args below meth c n0 h (mkF m pc ls st) (mkF m pc' ls (.int v :: st)) := by
  subst hp
  rintro T locs cl sl ⟨vm0, k0, X, N0, e0, bc, bs, hS, hk⟩
  have C := C.lift hS
  exact ⟨T, locs, ⟨vm0, k0, X, N0, e0, bc, bs, hS, hk⟩, fun target k => X.ldcInt C.1 C.2.2.2.1 (mv C.2.2.1 w) (g := mkF m pc ls st) rfl (C.d hd) target k⟩
theorem OG.ldcL (C : OC p s m meth c Z own nm bytes ml ret) {i : Nat} {v : Int64} (w : (Cond.constantLong own i v).before a0 Z = true) (hd : decode bytes pc = .ok (.ldc2_w i, 3)) (hp : pc + 3 = pc') : OG p l e R s m args below meth c n0 h (mkF m pc ls st) (mkF m pc' ls (.long v :: st)) := by
  subst hp
  rintro T locs cl sl ⟨vm0, k0, X, N0, e0, bc, bs, hS, hk⟩
  have C := C.lift hS
  exact ⟨T, locs, ⟨vm0, k0, X, N0, e0, bc, bs, hS, hk⟩, fun target k => X.ldc2Long C.1 C.2.2.2.1 (mv C.2.2.1 w) (g := mkF m pc ls st) rfl (C.d hd) target k⟩
theorem OG.ldcS (C : OC p s m meth c Z own nm bytes ml ret) {i : Nat} {t : String} {a : Addr} (w : (Cond.stringRef own i t).before a0 Z = true) (F : Lit Z own i a) (hd : decode bytes pc = .ok (.ldc i, 2)) (hp : pc + 2 = pc') : OG p l e R s m args below meth c n0 h (mkF m pc ls st) (mkF m pc' ls (.ref a :: st)) := by
  subst hp
  rintro T locs cl sl ⟨vm0, k0, X, N0, e0, bc, bs, hS, hk⟩
  have C := C.lift hS
  exact ⟨T, locs, ⟨vm0, k0, X, N0, e0, bc, bs, hS, hk⟩, fun target k => ldcR X C.1 C.2.2.1 C.2.2.2.1 w F (g := mkF m pc ls st) rfl (C.d hd) target k⟩
theorem OG.getF (C : OC p s m meth c Z own nm bytes ml ret) {R0 O n d host : String} {i : Nat} {a : Addr} {v : Value} (w : (Cond.fieldLink own i R0 n d).before a0 Z = true ∨ (Cond.fieldLinkNest own i R0 n d host).before a0 Z = true) (via : Via Z R0 O n d) (F : Fld Z h a O n d v) (hd : decode bytes pc = .ok (.getfield i, 3)) (hp : pc + 3 = pc') :
    OG p l e R s m args below meth c n0 h (mkF m pc ls (.ref a :: st)) (mkF m pc' ls (v :: st)) := by
  subst hp
  rintro T locs cl sl ⟨vm0, k0, X, N0, e0, bc, bs, hS, hk⟩
  have C := C.lift hS
  obtain ⟨T', X', e', k⟩ := RoadKit.getF X C.1 C.2.2.1 C.2.2.2.1 w via e0 F (g := mkF m pc ls (.ref a :: st)) rfl rfl (C.d hd)
  exact ⟨T', locs, ⟨vm0, k0, X', N0, e', bc, bs, hS, hk⟩, k⟩
theorem OG.getS (C : OC p s m meth c Z own nm bytes ml ret) {R0 O n d host : String} {i : Nat} {v : Value} (w : (Cond.fieldLink own i R0 n d).before a0 Z = true ∨ (Cond.fieldLinkNest own i R0 n d host).before a0 Z = true) (via : Via Z R0 O n d) (F : Sta Z h O n d v) (hd : decode bytes pc = .ok (.getstatic i, 3)) (hp : pc + 3 = pc') :
    OG p l e R s m args below meth c n0 h (mkF m pc ls st) (mkF m pc' ls (v :: st)) := by
  subst hp
  rintro T locs cl sl ⟨vm0, k0, X, N0, e0, bc, bs, hS, hk⟩
  have C := C.lift hS
  obtain ⟨T', X', e', k⟩ := getS2 X C.1 C.2.2.1 C.2.2.2.1 w via e0 F (g := mkF m pc ls st) rfl (C.d hd)
  exact ⟨T', locs, ⟨vm0, k0, X', N0, e', bc, bs, hS, hk⟩, k⟩
/-- an array and what stands in it -/
def OA (Z : State) (h : Heap) (a : Addr) (ty : FieldType) (vs : List Value) : Prop := ∃ c : Cell, Arr Z h a c ty ∧ c.slots.toList = vs
theorem OA.lt {a : Addr} {ty : FieldType} {vs : List Value} (A : OA Z h a ty vs) : a < h.size := by obtain ⟨c, A, -⟩ := A; exact A.lt
theorem OA.ext {h' : Heap} {a : Addr} {ty : FieldType} {vs : List Value} (A : OA Z h a ty vs) (E : Ext h h') : OA Z h' a ty vs := by obtain ⟨c, A, r⟩ := A; exact ⟨c, A.ext E, r⟩
theorem OA.other {h' : Heap} {a b : Addr} {k : Nat} {v : Value} {ty : FieldType} {vs : List Value} (A : OA Z h a ty vs) (W : Wr h h' b k v) (q : a ≠ b) : OA Z h' a ty vs := by obtain ⟨c, A, r⟩ := A; exact ⟨c, A.other W q, r⟩
theorem OA.same {h' : Heap} {a : Addr} {k : Nat} {v : Value} {ty : FieldType} {vs : List Value} (A : OA Z h a ty vs) (W : Wr h h' a k v) : OA Z h' a ty (vs.set k v) := by
  obtain ⟨c, A, r⟩ := A
  exact ⟨_, A.same W, by subst r; simp [Cell.setSlot]⟩
theorem OA.keep {h' : Heap} {a : Addr} {ws : List Addr} {ty : FieldType} {vs : List Value} (A : OA Z h a ty vs) (W : Keep h h' ws) (q : a ∉ ws) : OA Z h' a ty vs := by obtain ⟨c, A, r⟩ := A; exact ⟨c, ⟨W.2.1 a c A.1 q, A.2⟩, r⟩
theorem OA.inb {c : Cell} {vs : List Value} {j : Int32} (r : c.slots.toList = vs) (q : 0 ≤ j.toInt ∧ j.toInt < vs.length) : ¬ (j < 0 ∨ c.slots.size ≤ j.toNatClampNeg) := by
  have : c.slots.size = vs.length := by rw [← r]; simp
  rw [Int32.lt_iff_toInt_lt, Int32.toNatClampNeg]
  simp only [Int32.reduceToInt]; omega
theorem own_ib {j : Int32} {vs : List Value} {n : Nat} (q : vs.length = n) (r : 0 ≤ j.toInt ∧ j.toInt < (n : Int)) : 0 ≤ j.toInt ∧ j.toInt < vs.length := by rw [q]; exact r
theorem OA.new {k : ClassId} {a : Addr} {ty : FieldType} {z : Int32} {n : Nat} (A : Arr Z h a (newA k ty z) ty) (q : z.toNatClampNeg = n) : OA Z h a ty (List.replicate n (defaultValue ty)) := ⟨_, A, by subst q; simp [newA]⟩
theorem OG.laload (C : OC p s m meth c Z own nm bytes ml ret) {a : Addr} {j : Int32} {vs : List Value} {v : Value} (F : OA Z h a .long vs) (q : 0 ≤ j.toInt ∧ j.toInt < vs.length) (hv : vs[j.toNatClampNeg]? = some v) (hd : decode bytes pc = .ok (.laload, 1)) (hp : pc + 1 = pc') :
    OG p l e R s m args below meth c n0 h (mkF m pc ls (.int j :: .ref a :: st)) (mkF m pc' ls (v :: st)) := by
  subst hp
  rintro T locs cl sl ⟨vm0, k0, X, N0, e0, bc, bs, hS, hk⟩
  have C := C.lift hS
  obtain ⟨cc, A, r⟩ := F
  exact ⟨T, locs, ⟨vm0, k0, X, N0, e0, bc, bs, hS, hk⟩, X.laload C.1 (by rw [e0]; exact A.1) (State.isArrayOf_alike C.2.2.1.alike A.2.1) A.2.2 (OA.inb r q) (by rw [← r] at hv; simpa using hv) (g := mkF m pc ls (.int j :: .ref a :: st)) rfl rfl (C.d hd)⟩
theorem OG.iaload (C : OC p s m meth c Z own nm bytes ml ret) {a : Addr} {j : Int32} {vs : List Value} {v : Value} (F : OA Z h a .int vs) (q : 0 ≤ j.toInt ∧ j.toInt < vs.length) (hv : vs[j.toNatClampNeg]? = some v) (hd : decode bytes pc = .ok (.iaload, 1)) (hp : pc + 1 = pc') :
    OG p l e R s m args below meth c n0 h (mkF m pc ls (.int j :: .ref a :: st)) (mkF m pc' ls (v :: st)) := by
  subst hp
  rintro T locs cl sl ⟨vm0, k0, X, N0, e0, bc, bs, hS, hk⟩
  have C := C.lift hS
  obtain ⟨cc, A, r⟩ := F
  exact ⟨T, locs, ⟨vm0, k0, X, N0, e0, bc, bs, hS, hk⟩, X.iaload C.1 (by rw [e0]; exact A.1) (State.isArrayOf_alike C.2.2.1.alike A.2.1) A.2.2 (OA.inb r q) (by rw [← r] at hv; simpa using hv) (g := mkF m pc ls (.int j :: .ref a :: st)) rfl rfl (C.d hd)⟩
theorem OG.caload (C : OC p s m meth c Z own nm bytes ml ret) {a : Addr} {j : Int32} {vs : List Value} {v : Value} (F : OA Z h a .char vs) (q : 0 ≤ j.toInt ∧ j.toInt < vs.length) (hv : vs[j.toNatClampNeg]? = some v) (hd : decode bytes pc = .ok (.caload, 1)) (hp : pc + 1 = pc') :
    OG p l e R s m args below meth c n0 h (mkF m pc ls (.int j :: .ref a :: st)) (mkF m pc' ls (v :: st)) := by
  subst hp
  rintro T locs cl sl ⟨vm0, k0, X, N0, e0, bc, bs, hS, hk⟩
  have C := C.lift hS
  obtain ⟨cc, A, r⟩ := F
  exact ⟨T, locs, ⟨vm0, k0, X, N0, e0, bc, bs, hS, hk⟩, X.caload C.1 (by rw [e0]; exact A.1) (State.isArrayOf_alike C.2.2.1.alike A.2.1) A.2.2 (OA.inb r q) (by rw [← r] at hv; simpa using hv) (g := mkF m pc ls (.int j :: .ref a :: st)) rfl rfl (C.d hd)⟩
theorem OG.baload (C : OC p s m meth c Z own nm bytes ml ret) {a : Addr} {j : Int32} {vs : List Value} {v : Value} (F : OA Z h a .byte vs) (q : 0 ≤ j.toInt ∧ j.toInt < vs.length) (hv : vs[j.toNatClampNeg]? = some v) (hd : decode bytes pc = .ok (.baload, 1)) (hp : pc + 1 = pc') :
    OG p l e R s m args below meth c n0 h (mkF m pc ls (.int j :: .ref a :: st)) (mkF m pc' ls (v :: st)) := by
  subst hp
  rintro T locs cl sl ⟨vm0, k0, X, N0, e0, bc, bs, hS, hk⟩
  have C := C.lift hS
  obtain ⟨cc, A, r⟩ := F
  exact ⟨T, locs, ⟨vm0, k0, X, N0, e0, bc, bs, hS, hk⟩, X.baloadBytes C.1 (by rw [e0]; exact A.1) (State.isArrayOf_alike C.2.2.1.alike A.2.1) A.2.2 (OA.inb r q) (by rw [← r] at hv; simpa using hv) (g := mkF m pc ls (.int j :: .ref a :: st)) rfl rfl (C.d hd)⟩
theorem OG.aaload (C : OC p s m meth c Z own nm bytes ml ret) {a : Addr} {j : Int32} {ty : FieldType} {vs : List Value} {v : Value} (F : OA Z h a ty vs) (ht : ty.isReference = true) (q : 0 ≤ j.toInt ∧ j.toInt < vs.length) (hv : vs[j.toNatClampNeg]? = some v) (hd : decode bytes pc = .ok (.aaload, 1)) (hp : pc + 1 = pc') :
    OG p l e R s m args below meth c n0 h (mkF m pc ls (.int j :: .ref a :: st)) (mkF m pc' ls (v :: st)) := by
  subst hp
  rintro T locs cl sl ⟨vm0, k0, X, N0, e0, bc, bs, hS, hk⟩
  have C := C.lift hS
  obtain ⟨cc, A, r⟩ := F
  exact ⟨T, locs, ⟨vm0, k0, X, N0, e0, bc, bs, hS, hk⟩, X.aaload C.1 (by rw [e0]; exact A.1) (State.isArrayOf_alike C.2.2.1.alike A.2.1) ht A.2.2 (OA.inb r q) (by rw [← r] at hv; simpa using hv) (g := mkF m pc ls (.int j :: .ref a :: st)) rfl rfl (C.d hd)⟩
theorem OG.arraylength (C : OC p s m meth c Z own nm bytes ml ret) {a : Addr} {ty : FieldType} {vs : List Value} {z : Int32} (F : OA Z h a ty vs) (hz : vs.length.toInt32 = z) (hd : decode bytes pc = .ok (.arraylength, 1)) (hp : pc + 1 = pc') :
    OG p l e R s m args below meth c n0 h (mkF m pc ls (.ref a :: st)) (mkF m pc' ls (.int z :: st)) := by
  subst hp hz
  rintro T locs cl sl ⟨vm0, k0, X, N0, e0, bc, bs, hS, hk⟩
  have C := C.lift hS
  obtain ⟨cc, A, r⟩ := F
  refine ⟨T, locs, ⟨vm0, k0, X, N0, e0, bc, bs, hS, hk⟩, fun t k => X.arraylength C.1 (by rw [e0]; exact A.1) (State.isArrayOf_alike C.2.2.1.alike A.2.1) (g := mkF m pc ls (.ref a :: st)) rfl rfl (C.d hd) t ?_⟩
  have : cc.slots.size = vs.length := by rw [← r]; simp
  rw [this]; exact k
/-! returns -/
theorem OW.retI (C : OC p s m meth c Z own nm bytes ml (some .int)) {z : Int32} (hd : decode bytes pc = .ok (.ireturn, 1)) (hK : cl ≤ K) (hN : sl ≤ N) (hQ : Q (some (.int z)) h) : OW p l e R s m args below meth c n0 Q K N h cl sl (mkF m pc ls (.int z :: st)) := fun T locs ⟨vm0, k0, X, N0, e0, bc, bs, hS, hk⟩ => by
  have C := C.lift hS
  obtain ⟨fs, hr, hrun, hended, hW⟩ := X.leaveW hS (by rw [e0]; exact hk) (v := some (.int z)) (fun q => by rw [C.2.2.2.2.2.1] at q; cases q) C.2.2.2.2.2.2.1
  exact ⟨_, _, retOut X C.1 C.2.2.2.2.2.1 rfl (Or.inl ⟨rfl, Or.inl rfl, z, rfl⟩) (C.d hd) hr, hrun, hended, _, locs, rfl, ⟨by show Q _ T.heap; rw [e0]; exact hQ, N0⟩, RW.mono hW hK hN⟩
theorem OW.retN {t : FieldType} (C : OC p s m meth c Z own nm bytes ml (some t)) {z : Int32} (ht : t = .boolean ∨ t = .byte ∨ t = .char ∨ t = .short) (hd : decode bytes pc = .ok (.ireturn, 1)) (hK : cl ≤ K) (hN : sl ≤ N) (hQ : Q (some (.int (nar t z))) h) : OW p l e R s m args below meth c n0 Q K N h cl sl (mkF m pc ls (.int z :: st)) := fun T locs ⟨vm0, k0, X, N0, e0, bc, bs, hS, hk⟩ => by
  have C := C.lift hS
  obtain ⟨fs, hr, hrun, hended, hW⟩ := X.leaveW hS (by rw [e0]; exact hk) (v := some (.int (nar t z))) (fun q => by rw [C.2.2.2.2.2.1] at q; cases q) C.2.2.2.2.2.2.1
  exact ⟨_, _, RoadKit.retN X C.1 C.2.2.2.2.2.1 ht (C.d hd) hr, hrun, hended, _, locs, rfl, ⟨by show Q _ T.heap; rw [e0]; exact hQ, N0⟩, RW.mono hW hK hN⟩
theorem OW.retL (C : OC p s m meth c Z own nm bytes ml (some .long)) {z : Int64} (hd : decode bytes pc = .ok (.lreturn, 1)) (hK : cl ≤ K) (hN : sl ≤ N) (hQ : Q (some (.long z)) h) : OW p l e R s m args below meth c n0 Q K N h cl sl (mkF m pc ls (.long z :: st)) := fun T locs ⟨vm0, k0, X, N0, e0, bc, bs, hS, hk⟩ => by
  have C := C.lift hS
  obtain ⟨fs, hr, hrun, hended, hW⟩ := X.leaveW hS (by rw [e0]; exact hk) (v := some (.long z)) (fun q => by rw [C.2.2.2.2.2.1] at q; cases q) C.2.2.2.2.2.2.1
  exact ⟨_, _, retOut X C.1 C.2.2.2.2.2.1 rfl (Or.inr (Or.inl ⟨rfl, rfl, z, rfl⟩)) (C.d hd) hr, hrun, hended, _, locs, rfl, ⟨by show Q _ T.heap; rw [e0]; exact hQ, N0⟩, RW.mono hW hK hN⟩
theorem OW.retA {t : FieldType} (C : OC p s m meth c Z own nm bytes ml (some t)) {v : Value} (ht : t.isReference = true) (hv : v.isRef = true) (hd : decode bytes pc = .ok (.areturn, 1)) (hK : cl ≤ K) (hN : sl ≤ N) (hQ : Q (some v) h) : OW p l e R s m args below meth c n0 Q K N h cl sl (mkF m pc ls (v :: st)) := fun T locs ⟨vm0, k0, X, N0, e0, bc, bs, hS, hk⟩ => by
  have C := C.lift hS
  have hn : narrow t v = v := by cases t <;> first | (cases ht; done) | (cases v <;> rfl)
  obtain ⟨fs, hr, hrun, hended, hW⟩ := X.leaveW hS (by rw [e0]; exact hk) (v := some v) (fun q => by rw [C.2.2.2.2.2.1] at q; cases q) C.2.2.2.2.2.2.1
  exact ⟨_, _, retOut X C.1 C.2.2.2.2.2.1 hn (Or.inr (Or.inr (Or.inr (Or.inr ⟨rfl, ht, hv⟩)))) (C.d hd) hr, hrun, hended, _, locs, rfl, ⟨by show Q _ T.heap; rw [e0]; exact hQ, N0⟩, RW.mono hW hK hN⟩
theorem OW.retV (C : OC p s m meth c Z own nm bytes ml none) (hd : decode bytes pc = .ok (.return_, 1)) (hK : cl ≤ K) (hN : sl ≤ N) (hQ : Q none h) : OW p l e R s m args below meth c n0 Q K N h cl sl (mkF m pc ls []) := fun T locs ⟨vm0, k0, X, N0, e0, bc, bs, hS, hk⟩ => by
  have C := C.lift hS
  obtain ⟨fs, hr, hrun, hended, hW⟩ := X.leaveW hS (by rw [e0]; exact hk) (v := none) (fun _ => rfl) C.2.2.2.2.2.2.1
  exact ⟨_, _, X.returnOut C.1 C.2.2.2.2.2.1 (C.d hd) hr, hrun, hended, _, locs, rfl, ⟨by show Q _ T.heap; rw [e0]; exact hQ, N0⟩, RW.mono hW hK hN⟩
/-! the heap: new, putfield, arrays -/
theorem OW.putF (C : OC p s m meth c Z own nm bytes ml ret) {R0 O n d host Cl : String} {i kk : Nat} {ty : FieldType} {a : Addr} {v old : Value} (w : (Cond.fieldLink own i R0 n d).before a0 Z = true ∨ (Cond.fieldLinkNest own i R0 n d host).before a0 Z = true) (via : Via Z R0 O n d) (F : Fld Z h a O n d old) (E : Exa Z h a Cl)
    (L : (Cond.lays Cl O n d).before a0 Z = true ∨ ((Cond.laysFinal Cl O n d).before a0 Z = true ∧ own = O ∧ nm = "<init>")) (wi : (Cond.instantiable Cl kk).before a0 Z = true) (hty : parseFieldDescriptor d = some ty) (hn : narrow ty v = v) (hf : fits ty v = true) (hna : n0 ≤ a) (hd : decode bytes pc = .ok (.putfield i, 3)) (hp : pc + 3 = pc')
    (k : ∀ h', Wr h h' a (slotOf Z O n d) v → OW p l e R s m args below meth c n0 Q K N h' cl sl (mkF m pc' ls st)) : OW p l e R s m args below meth c n0 Q K N h cl sl (mkF m pc ls (v :: .ref a :: st)) := fun T locs ⟨vm0, k0, X, N0, e0, bc, bs, hS, hk⟩ => by
  have C := C.lift hS
  subst hp
  obtain ⟨T', h', X', e', W, kk⟩ := RoadKit.putF X C.1 C.2.2.1 C.2.2.2.1 w via e0 F E (L.imp id fun q => ⟨q.1, q.2.1, C.2.2.2.2.2.2.2.trans q.2.2⟩) wi hty hn hf (g := mkF m pc ls (v :: .ref a :: st)) rfl rfl (C.d hd)
  obtain ⟨s₂, o, q, r⟩ := k h' W T' _ ⟨vm0, k0, X', Fr.snoc X' N0 hna, e', bc, bs, hS, Nat.le_trans hk (Nat.le_of_eq W.size.symm)⟩
  exact ⟨s₂, o, kk _ q, r⟩
theorem OW.newO (C : OC p s m meth c Z own nm bytes ml ret) {Cl : String} {i nn : Nat} (w : (Cond.classLink own i Cl).before a0 Z = true) (wi : (Cond.instantiable Cl nn).before a0 Z = true) (wz : (Cond.initialized Cl).before a0 Z = true) (hd : decode bytes pc = .ok (.new i, 3)) (hc : cl + 1 ≤ R.cells) (hl : sl + nn ≤ R.slots) (hp : pc + 3 = pc')
    (k : ∀ (a : Addr) h', h.size = a → Ext h h' → Exa Z h' a Cl → (∀ {O nm d : String} {ty : FieldType}, Laid Z a0 Cl O nm d → parseFieldDescriptor d = some ty → Fld Z h' a O nm d (defaultValue ty)) → OW p l e R s m args below meth c n0 Q K N h' (cl + 1) (sl + nn) (mkF m pc' ls (.ref a :: st))) : OW p l e R s m args below meth c n0 Q K N h cl sl (mkF m pc ls st) := fun T locs ⟨vm0, k0, X, N0, e0, bc, bs, hS, hk⟩ => by
  have C := C.lift hS
  subst hp
  obtain ⟨T', h', X', e', E, A, D, -, kk⟩ := RoadKit.newO X C.1 C.2.2.1 C.2.2.2.1 w wi wz e0 (g := mkF m pc ls st) rfl (C.d hd) hc hl
  obtain ⟨s₂, o, q, r⟩ := k _ h' rfl E A D T' _ ⟨vm0, k0, X', N0, e', hc, hl, hS, Nat.le_trans hk E.1⟩
  exact ⟨s₂, o, kk _ q, r⟩
theorem OW.newP (C : OC p s m meth c Z own nm bytes ml ret) {aty : ArrayType} {n : Int32} {cap : Nat} {ty : FieldType} (hty : newarray.typeOf aty = ty) (w : (Cond.arrayClass ty).before a0 Z = true) (hn : ¬ n < 0) (hcap : n.toNatClampNeg = cap) (hb : cap * 8 ≤ 536870912) (hd : decode bytes pc = .ok (.newarray aty, 2)) (hc : cl + 1 ≤ R.cells) (hl : sl + cap ≤ R.slots) (hp : pc + 2 = pc')
    (k : ∀ (a : Addr) h', h.size = a → Ext h h' → OA Z h' a ty (List.replicate cap (defaultValue ty)) → OW p l e R s m args below meth c n0 Q K N h' (cl + 1) (sl + cap) (mkF m pc' ls (.ref a :: st))) : OW p l e R s m args below meth c n0 Q K N h cl sl (mkF m pc ls (.int n :: st)) := fun T locs ⟨vm0, k0, X, N0, e0, bc, bs, hS, hk⟩ => by
  have C := C.lift hS
  subst hp hty
  obtain ⟨T', h', cA, X', e', E, A, kk⟩ := RoadKit.newP X C.1 C.2.2.1 w e0 (g := mkF m pc ls (.int n :: st)) rfl (C.d hd) rfl hn (Nat.le_of_eq hcap) hb hc hl
  obtain ⟨s₂, o, q, r⟩ := k _ h' rfl E (OA.new A hcap) T' _ ⟨vm0, k0, X', N0, e', hc, hl, hS, Nat.le_trans hk E.1⟩
  exact ⟨s₂, o, kk _ q, r⟩
theorem OW.lastore (C : OC p s m meth c Z own nm bytes ml ret) {a : Addr} {j : Int32} {x : Int64} {vs : List Value} (F : OA Z h a .long vs) (q : 0 ≤ j.toInt ∧ j.toInt < vs.length) (hna : n0 ≤ a) (hd : decode bytes pc = .ok (.lastore, 1)) (hp : pc + 1 = pc')
    (k : ∀ h', Wr h h' a j.toNatClampNeg (.long x) → OW p l e R s m args below meth c n0 Q K N h' cl sl (mkF m pc' ls st)) : OW p l e R s m args below meth c n0 Q K N h cl sl (mkF m pc ls (.long x :: .int j :: .ref a :: st)) := fun T locs ⟨vm0, k0, X, N0, e0, bc, bs, hS, hk⟩ => by
  have C := C.lift hS
  subst hp
  obtain ⟨cc, A, r⟩ := F
  obtain ⟨T', h', X', e', W, kk⟩ := stJ X C.1 C.2.2.1 e0 A (OA.inb r q) (g := mkF m pc ls (.long x :: .int j :: .ref a :: st)) rfl rfl (C.d hd)
  obtain ⟨s₂, o, q, r⟩ := k h' W T' _ ⟨vm0, k0, X', Fr.snoc X' N0 hna, e', bc, bs, hS, Nat.le_trans hk (Nat.le_of_eq W.size.symm)⟩
  exact ⟨s₂, o, kk _ q, r⟩
theorem OW.iastore (C : OC p s m meth c Z own nm bytes ml ret) {a : Addr} {j x : Int32} {vs : List Value} (F : OA Z h a .int vs) (q : 0 ≤ j.toInt ∧ j.toInt < vs.length) (hna : n0 ≤ a) (hd : decode bytes pc = .ok (.iastore, 1)) (hp : pc + 1 = pc')
    (k : ∀ h', Wr h h' a j.toNatClampNeg (.int x) → OW p l e R s m args below meth c n0 Q K N h' cl sl (mkF m pc' ls st)) : OW p l e R s m args below meth c n0 Q K N h cl sl (mkF m pc ls (.int x :: .int j :: .ref a :: st)) := fun T locs ⟨vm0, k0, X, N0, e0, bc, bs, hS, hk⟩ => by
  have C := C.lift hS
  subst hp
  obtain ⟨cc, A, r⟩ := F
  obtain ⟨T', h', X', e', W, kk⟩ := stI X C.1 C.2.2.1 e0 A (OA.inb r q) (g := mkF m pc ls (.int x :: .int j :: .ref a :: st)) rfl rfl (C.d hd)
  obtain ⟨s₂, o, q, r⟩ := k h' W T' _ ⟨vm0, k0, X', Fr.snoc X' N0 hna, e', bc, bs, hS, Nat.le_trans hk (Nat.le_of_eq W.size.symm)⟩
  exact ⟨s₂, o, kk _ q, r⟩
theorem OW.bastore (C : OC p s m meth c Z own nm bytes ml ret) {a : Addr} {j x : Int32} {vs : List Value} (F : OA Z h a .byte vs) (q : 0 ≤ j.toInt ∧ j.toInt < vs.length) (hna : n0 ≤ a) (hd : decode bytes pc = .ok (.bastore, 1)) (hp : pc + 1 = pc')
    (k : ∀ h', Wr h h' a j.toNatClampNeg (.int (nar .byte x)) → OW p l e R s m args below meth c n0 Q K N h' cl sl (mkF m pc' ls st)) : OW p l e R s m args below meth c n0 Q K N h cl sl (mkF m pc ls (.int x :: .int j :: .ref a :: st)) := fun T locs ⟨vm0, k0, X, N0, e0, bc, bs, hS, hk⟩ => by
  have C := C.lift hS
  subst hp
  obtain ⟨cc, A, r⟩ := F
  obtain ⟨T', h', X', e', W, kk⟩ := stB X C.1 C.2.2.1 e0 A (OA.inb r q) (g := mkF m pc ls (.int x :: .int j :: .ref a :: st)) rfl rfl (C.d hd)
  obtain ⟨s₂, o, q, r⟩ := k h' W T' _ ⟨vm0, k0, X', Fr.snoc X' N0 hna, e', bc, bs, hS, Nat.le_trans hk (Nat.le_of_eq W.size.symm)⟩
  exact ⟨s₂, o, kk _ q, r⟩
theorem OW.castore (C : OC p s m meth c Z own nm bytes ml ret) {a : Addr} {j x : Int32} {vs : List Value} (F : OA Z h a .char vs) (q : 0 ≤ j.toInt ∧ j.toInt < vs.length) (hna : n0 ≤ a) (hd : decode bytes pc = .ok (.castore, 1)) (hp : pc + 1 = pc')
    (k : ∀ h', Wr h h' a j.toNatClampNeg (.int (nar .char x)) → OW p l e R s m args below meth c n0 Q K N h' cl sl (mkF m pc' ls st)) : OW p l e R s m args below meth c n0 Q K N h cl sl (mkF m pc ls (.int x :: .int j :: .ref a :: st)) := fun T locs ⟨vm0, k0, X, N0, e0, bc, bs, hS, hk⟩ => by
  have C := C.lift hS
  subst hp
  obtain ⟨cc, A, r⟩ := F
  obtain ⟨T', h', X', e', W, kk⟩ := stC X C.1 C.2.2.1 e0 A (OA.inb r q) (g := mkF m pc ls (.int x :: .int j :: .ref a :: st)) rfl rfl (C.d hd)
  obtain ⟨s₂, o, q, r⟩ := k h' W T' _ ⟨vm0, k0, X', Fr.snoc X' N0 hna, e', bc, bs, hS, Nat.le_trans hk (Nat.le_of_eq W.size.symm)⟩
  exact ⟨s₂, o, kk _ q, r⟩
theorem OG.initO (C : OC p s m meth c Z own nm bytes ml ret) {i W : Nat} {a : Addr} (w1 : (Cond.methodLink own i Lib.objectInit).before a0 Z = true) (w2 : (Cond.instanceMethod Lib.objectInit).before a0 Z = true) (w3 : (Cond.code Lib.objectInit ⟨#[0xb1]⟩ 1 none).before a0 Z = true) (hd : decode bytes pc = .ok (.invokespecial i, 3)) (hsz : ls.size = ml) (hf : 1 ≤ R.frames) (hW : (st.map fun v => v.category).sum = W) (hl : W + 12 ≤ R.locals) (hp : pc + 3 = pc') :
    OG p l e R s m args below meth c n0 h (mkF m pc ls (.ref a :: st)) (mkF m pc' ls st) := by
  subst hp
  rintro T locs cl sl ⟨vm0, k0, X, N0, e0, bc, bs, hS, hk⟩
  have C := C.lift hS
  obtain ⟨T', X', e', k⟩ := RoadKit.initO X C.1 C.2.2.1 C.2.2.2.1 w1 w2 w3 e0 (g := mkF m pc ls (.ref a :: st)) rfl (by rw [C.2.2.2.2.1]; exact hsz) rfl (C.d hd) hf (W := W) (by show 2 * 0 + _ ≤ _; omega) hl
  exact ⟨T', locs, ⟨vm0, k0, X', N0, e', bc, bs, hS, hk⟩, k⟩
/-! contracts and calls -/
def OM (l : Launch) (Z : State) (y : MethodName) (bytes : ByteArray) (ml : Nat) (ret : Option FieldType) (rm : Room) (n0 : Nat) (h : Heap) (as' : Array Value) (Q : Option Value → Heap → Prop) (K N : Nat) : Prop :=
  ∀ ws : List Cond, MetFree l y (head1 (Cond.code y bytes ml ret :: ws) rm) (fun a U => a = as' ∧ Z.Warmed39 U.vm ∧ U.heap = h) (fun _ _ _ _ _ => True) (fun _ U o U' => ∃ v L, o = .returned v ∧ (Q v U'.heap ∧ Fr n0 L) ∧ ReturnedEndW U o U' L K N)
theorem OM.of_body {y : MethodName} {rm : Room} {as' : Array Value} (hy : plainFor y = true) (hef : ∀ m, entryFrame m as' ml = mkF m 0 ls [])
    (body : ∀ (p : Program) (e : Env) (s : State) (m : MethodId) (below : List Frame) (meth : Method) (c : Code), OC p s m meth c Z y.cls y.name bytes ml ret → OW p l e rm s m as' below meth c n0 Q K N h 0 0 (mkF m 0 ls [])) : OM l Z y bytes ml ret rm n0 h as' Q K N := by
  intro ws
  refine MetFree.of_bodySF hy hisR ?_
  intro p e s m args below meth c s₁ Bd hml0 hP hK
  obtain ⟨rfl, hZ, hh⟩ := hP
  have e0 : s₁.heap = h := by rw [← hh, Bd.state]; rfl
  have X0 : Stand p l e rm s m args below meth c s₁ [] 0 0 := Stand.of_body Bd
  rw [hef m]
  exact body p e s m below meth c ⟨Bd.exec, Bd.bytes, hZ, findClass_of_methodNamed Bd.named, hml0, Bd.returns, Bd.notSynchronized, (name_of_methodNamed Bd.named Bd.method).1⟩ s₁ [] ⟨s.vm, 0, X0, Fr.nil n0, e0, Nat.zero_le _, Nat.zero_le _, (State.WarmedH.refl s).since 0, Nat.zero_le _⟩
theorem OW.callS (C : OC p s m meth c Z own nm bytes ml ret) {i : Nat} {y : MethodName} {bytes' : ByteArray} {ml' W : Nat} {ret' r0 : Option FieldType} {rm : Room} {argsL rest : List Value} {ps : List FieldType} {Q' : Option Value → Heap → Prop}
    (w1 : (Cond.methodLink own i y).before a0 Z = true) (w2 : (Cond.static y).before a0 Z = true) (w3 : (Cond.initialized y.cls).before a0 Z = true) (w4 : (Cond.code y bytes' ml' ret').before a0 Z = true) (hy : y.cls ≠ "java/lang/invoke/MethodHandle" ∧ y.cls ≠ "java/lang/invoke/VarHandle")
    (hM : OM l Z y bytes' ml' ret' rm n0 h argsL.toArray Q' rm.cells rm.slots) (hd : decode bytes pc = .ok (.invokestatic i, 3)) (hpd : parseMethodDescriptor y.desc = some ⟨ps, r0⟩) (hlen : argsL.length = ps.length) (hst : st = argsL.reverse ++ rest) (hsz : ls.size = ml) (hW : (rest.map fun v => v.category).sum = W)
    (hf : rm.frames + 1 ≤ R.frames) (hlo : W + (ml' + 11) + rm.locals ≤ R.locals) (hcl : cl + rm.cells ≤ R.cells) (hsl : sl + rm.slots ≤ R.slots) (hp : pc + 3 = pc')
    (k : ∀ v h', Q' v h' → OW p l e R s m args below meth c n0 Q K N h' (cl + rm.cells) (sl + rm.slots) (mkF m pc' ls (v.toList ++ rest))) : OW p l e R s m args below meth c n0 Q K N h cl sl (mkF m pc ls st) := fun T locs ⟨vm0, k0, X, N0, e0, bc, bs, hS, hk⟩ => by
  have C := C.lift hS
  subst hp
  obtain ⟨v, vm, ⟨T', L', cl', sl'⟩, -, X', hS', hgr, ⟨Lc, ⟨hQ, hL⟩, e1, e2, e3⟩, kk⟩ := callSS X C.1 C.2.2.2.1 (mv C.2.2.1 w1) (mv C.2.2.1 w2) (mv C.2.2.1 w3) (mv C.2.2.1 w4) hy (backOfS (W := W) (Q := fun v h L => Q' v h ∧ Fr n0 L) (hM []) C.2.2.1 w4 w3 hf hlo) (g := mkF m pc ls st) rfl (by rw [C.2.2.2.2.1]; exact hsz) (argsL := argsL) (rest := rest) (lenOf hpd hlen) hst (by show 2 * 0 + _ ≤ _; omega) (C.d hd) (fun _ _ => ⟨rfl, e0, hcl, hsl⟩)
  dsimp only [Pt.U, Pt.locs, Pt.cells, Pt.slots] at X' hS' hgr e1 e2 e3 kk hQ
  subst e1 e2 e3
  obtain ⟨s₂, o, q, r⟩ := k v _ hQ T' _ ⟨T'.vm, T'.heap.size, X', Fr.app N0 hL, rfl, hcl, hsl, hS.trans hS' (Nat.le_trans hk (by rw [← e0]; exact hgr)), Nat.le_refl _⟩
  exact ⟨s₂, o, kk.trans q, r⟩
theorem OG.callS (C : OC p s m meth c Z own nm bytes ml ret) {i : Nat} {y : MethodName} {bytes' : ByteArray} {ml' W fr lo : Nat} {ret' r0 : Option FieldType} {argsL rest : List Value} {ps : List FieldType} {w : Value}
    (w1 : (Cond.methodLink own i y).before a0 Z = true) (w2 : (Cond.static y).before a0 Z = true) (w3 : (Cond.initialized y.cls).before a0 Z = true) (w4 : (Cond.code y bytes' ml' ret').before a0 Z = true) (hy : y.cls ≠ "java/lang/invoke/MethodHandle" ∧ y.cls ≠ "java/lang/invoke/VarHandle")
    (hM : OM l Z y bytes' ml' ret' ⟨fr, 0, 0, lo⟩ n0 h argsL.toArray (fun v h' => v = some w ∧ h' = h) 0 0) (hd : decode bytes pc = .ok (.invokestatic i, 3)) (hpd : parseMethodDescriptor y.desc = some ⟨ps, r0⟩) (hlen : argsL.length = ps.length) (hst : st = argsL.reverse ++ rest) (hsz : ls.size = ml) (hW : (rest.map fun v => v.category).sum = W)
    (hf : fr + 1 ≤ R.frames) (hlo : W + (ml' + 11) + lo ≤ R.locals) (hp : pc + 3 = pc') :
    OG p l e R s m args below meth c n0 h (mkF m pc ls st) (mkF m pc' ls (w :: rest)) := fun T locs cl sl ⟨vm0, k0, X, N0, e0, bc, bs, hS, hk⟩ => by
  have C := C.lift hS
  subst hp
  obtain ⟨v, vm, ⟨T', L', cl', sl'⟩, -, X', hS', hgr, ⟨Lc, ⟨⟨rfl, hQ⟩, hL⟩, e1, e2, e3⟩, kk⟩ := callSS X C.1 C.2.2.2.1 (mv C.2.2.1 w1) (mv C.2.2.1 w2) (mv C.2.2.1 w3) (mv C.2.2.1 w4) hy (backOfS (W := W) (Q := fun v h' L => (v = some w ∧ h' = h) ∧ Fr n0 L) (hM []) C.2.2.1 w4 w3 hf hlo) (g := mkF m pc ls st) rfl (by rw [C.2.2.2.2.1]; exact hsz) (argsL := argsL) (rest := rest) (lenOf hpd hlen) hst (by show 2 * 0 + _ ≤ _; omega) (C.d hd) (fun _ _ => ⟨rfl, e0, bc, bs⟩)
  dsimp only [Pt.U, Pt.locs, Pt.cells, Pt.slots] at X' hS' hgr e1 e2 e3 kk hQ
  subst e1 e2 e3
  exact ⟨T', _, ⟨T'.vm, T'.heap.size, X', Fr.app N0 hL, hQ, bc, bs, hS.trans hS' (Nat.le_trans hk (by rw [← e0]; exact hgr)), Nat.le_of_eq (by rw [hQ])⟩, fun t q => kk.trans q⟩
theorem OW.init (C : OC p s m meth c Z own nm bytes ml ret) {i : Nat} {y : MethodName} {bytes' : ByteArray} {ml' W : Nat} {r0 : Option FieldType} {rm : Room} {argsL rest : List Value} {ps : List FieldType} {Q' : Option Value → Heap → Prop} {a : Addr}
    (w1 : (Cond.methodLink own i y).before a0 Z = true) (w2 : (Cond.instanceMethod y).before a0 Z = true) (w3 : (Cond.initialized y.cls).before a0 Z = true) (w4 : (Cond.code y bytes' ml' none).before a0 Z = true) (hyi : y.name = "<init>") (hy : y.cls ≠ "java/lang/invoke/MethodHandle" ∧ y.cls ≠ "java/lang/invoke/VarHandle")
    (hM : OM l Z y bytes' ml' none rm n0 h (.ref a :: argsL).toArray Q' rm.cells rm.slots) (hd : decode bytes pc = .ok (.invokespecial i, 3)) (hpd : parseMethodDescriptor y.desc = some ⟨ps, r0⟩) (hlen : argsL.length = ps.length) (hst : st = argsL.reverse ++ .ref a :: rest) (hsz : ls.size = ml) (hW : (rest.map fun v => v.category).sum = W)
    (hf : rm.frames + 1 ≤ R.frames) (hlo : W + (ml' + 11) + rm.locals ≤ R.locals) (hcl : cl + rm.cells ≤ R.cells) (hsl : sl + rm.slots ≤ R.slots) (hp : pc + 3 = pc')
    (k : ∀ v h', Q' v h' → OW p l e R s m args below meth c n0 Q K N h' (cl + rm.cells) (sl + rm.slots) (mkF m pc' ls (v.toList ++ rest))) : OW p l e R s m args below meth c n0 Q K N h cl sl (mkF m pc ls st) := fun T locs ⟨vm0, k0, X, N0, e0, bc, bs, hS, hk⟩ => by
  have C := C.lift hS
  subst hp
  obtain ⟨v, vm, ⟨T', L', cl', sl'⟩, -, X', hS', hgr, ⟨Lc, ⟨hQ, hL⟩, e1, e2, e3⟩, kk⟩ := X.specialBackS C.1 hyi C.2.2.2.1 (mv C.2.2.1 w1) (mv C.2.2.1 w2) (mv C.2.2.1 w4) hy (backOfS (W := W) (Q := fun v h L => Q' v h ∧ Fr n0 L) (hM []) C.2.2.1 w4 w3 hf hlo) (g := mkF m pc ls st) rfl (by rw [C.2.2.2.2.1]; exact hsz) (Steps.refl _) (a := a) (argsL := argsL) (rest := rest) (lenOf hpd hlen) hst (by show 2 * 0 + _ ≤ _; omega) (C.d hd) (fun _ _ => ⟨rfl, e0, hcl, hsl⟩)
  dsimp only [Pt.U, Pt.locs, Pt.cells, Pt.slots] at X' hS' hgr e1 e2 e3 kk hQ
  subst e1 e2 e3
  obtain ⟨s₂, o, q, r⟩ := k v _ hQ T' _ ⟨T'.vm, T'.heap.size, X', Fr.app N0 hL, rfl, hcl, hsl, hS.trans hS' (Nat.le_trans hk (by rw [← e0]; exact hgr)), Nat.le_refl _⟩
  exact ⟨s₂, o, kk.trans q, r⟩
theorem OG.init (C : OC p s m meth c Z own nm bytes ml ret) {i : Nat} {y : MethodName} {bytes' : ByteArray} {ml' W fr lo : Nat} {r0 : Option FieldType} {argsL rest : List Value} {ps : List FieldType} {a : Addr}
    (w1 : (Cond.methodLink own i y).before a0 Z = true) (w2 : (Cond.instanceMethod y).before a0 Z = true) (w3 : (Cond.initialized y.cls).before a0 Z = true) (w4 : (Cond.code y bytes' ml' none).before a0 Z = true) (hyi : y.name = "<init>") (hy : y.cls ≠ "java/lang/invoke/MethodHandle" ∧ y.cls ≠ "java/lang/invoke/VarHandle")
    (hM : OM l Z y bytes' ml' none ⟨fr, 0, 0, lo⟩ n0 h (.ref a :: argsL).toArray (fun v h' => v = none ∧ h' = h) 0 0) (hd : decode bytes pc = .ok (.invokespecial i, 3)) (hpd : parseMethodDescriptor y.desc = some ⟨ps, r0⟩) (hlen : argsL.length = ps.length) (hst : st = argsL.reverse ++ .ref a :: rest) (hsz : ls.size = ml) (hW : (rest.map fun v => v.category).sum = W)
    (hf : fr + 1 ≤ R.frames) (hlo : W + (ml' + 11) + lo ≤ R.locals) (hp : pc + 3 = pc') :
    OG p l e R s m args below meth c n0 h (mkF m pc ls st) (mkF m pc' ls rest) := fun T locs cl sl ⟨vm0, k0, X, N0, e0, bc, bs, hS, hk⟩ => by
  have C := C.lift hS
  subst hp
  obtain ⟨v, vm, ⟨T', L', cl', sl'⟩, -, X', hS', hgr, ⟨Lc, ⟨⟨rfl, hQ⟩, hL⟩, e1, e2, e3⟩, kk⟩ := X.specialBackS C.1 hyi C.2.2.2.1 (mv C.2.2.1 w1) (mv C.2.2.1 w2) (mv C.2.2.1 w4) hy (backOfS (W := W) (Q := fun v h' L => (v = none ∧ h' = h) ∧ Fr n0 L) (hM []) C.2.2.1 w4 w3 hf hlo) (g := mkF m pc ls st) rfl (by rw [C.2.2.2.2.1]; exact hsz) (Steps.refl _) (a := a) (argsL := argsL) (rest := rest) (lenOf hpd hlen) hst (by show 2 * 0 + _ ≤ _; omega) (C.d hd) (fun _ _ => ⟨rfl, e0, bc, bs⟩)
  dsimp only [Pt.U, Pt.locs, Pt.cells, Pt.slots] at X' hS' hgr e1 e2 e3 kk hQ
  subst e1 e2 e3
  exact ⟨T', _, ⟨T'.vm, T'.heap.size, X', Fr.app N0 hL, hQ, bc, bs, hS.trans hS' (Nat.le_trans hk (by rw [← e0]; exact hgr)), Nat.le_of_eq (by rw [hQ])⟩, fun t q => kk.trans q⟩
theorem OW.callV (C : OC p s m meth c Z own nm bytes ml ret) {i : Nat} {y : MethodName} {bytes' : ByteArray} {ml' W : Nat} {ret' r0 : Option FieldType} {rm : Room} {argsL rest : List Value} {ps : List FieldType} {Q' : Option Value → Heap → Prop} {a : Addr} {Cl : String}
    (w1 : (Cond.methodLink own i y).before a0 Z = true) (wd : (Cond.declares y).before a0 Z = true) (ws : (Cond.selects Cl y y).before a0 Z = true) (w2 : (Cond.instanceMethod y).before a0 Z = true) (w3 : (Cond.initialized y.cls).before a0 Z = true) (w4 : (Cond.code y bytes' ml' ret').before a0 Z = true) (hy : y.cls ≠ "java/lang/invoke/MethodHandle" ∧ y.cls ≠ "java/lang/invoke/VarHandle") (E : Exa Z h a Cl)
    (hM : OM l Z y bytes' ml' ret' rm n0 h (.ref a :: argsL).toArray Q' rm.cells rm.slots) (hd : decode bytes pc = .ok (.invokevirtual i, 3)) (hpd : parseMethodDescriptor y.desc = some ⟨ps, r0⟩) (hlen : argsL.length = ps.length) (hst : st = argsL.reverse ++ .ref a :: rest) (hsz : ls.size = ml) (hW : (rest.map fun v => v.category).sum = W)
    (hf : rm.frames + 1 ≤ R.frames) (hlo : W + (ml' + 11) + rm.locals ≤ R.locals) (hcl : cl + rm.cells ≤ R.cells) (hsl : sl + rm.slots ≤ R.slots) (hp : pc + 3 = pc')
    (k : ∀ v h', Q' v h' → OW p l e R s m args below meth c n0 Q K N h' (cl + rm.cells) (sl + rm.slots) (mkF m pc' ls (v.toList ++ rest))) : OW p l e R s m args below meth c n0 Q K N h cl sl (mkF m pc ls st) := fun T locs ⟨vm0, k0, X, N0, e0, bc, bs, hS, hk⟩ => by
  have C := C.lift hS
  subst hp
  obtain ⟨cq, kq, qa, qb, qc⟩ := isOf C.2.2.1 e0 E
  obtain ⟨v, vm, ⟨T', L', cl', sl'⟩, -, X', hS', hgr, ⟨Lc, ⟨hQ, hL⟩, e1, e2, e3⟩, kk⟩ := X.virtualBackS C.1 C.2.2.2.1 (mv C.2.2.1 w1) (mv C.2.2.1 wd) (notFace_of_selects (args := #[]) (mv C.2.2.1 ws)) (mv C.2.2.1 ws) (mv C.2.2.1 w2) hy (backOfS (W := W) (Q := fun v h L => Q' v h ∧ Fr n0 L) (hM []) C.2.2.1 w4 w3 hf hlo) qa qc (g := mkF m pc ls st) rfl (by rw [C.2.2.2.2.1]; exact hsz) (Steps.refl _) (argsL := argsL) (rest := rest) (lenOf hpd hlen) hst (by show 2 * 0 + _ ≤ _; omega) (C.d hd) (fun _ _ => ⟨rfl, e0, hcl, hsl⟩)
  dsimp only [Pt.U, Pt.locs, Pt.cells, Pt.slots] at X' hS' hgr e1 e2 e3 kk hQ
  subst e1 e2 e3
  obtain ⟨s₂, o, q, r⟩ := k v _ hQ T' _ ⟨T'.vm, T'.heap.size, X', Fr.app N0 hL, rfl, hcl, hsl, hS.trans hS' (Nat.le_trans hk (by rw [← e0]; exact hgr)), Nat.le_refl _⟩
  exact ⟨s₂, o, kk.trans q, r⟩
theorem OG.callV (C : OC p s m meth c Z own nm bytes ml ret) {i : Nat} {y : MethodName} {bytes' : ByteArray} {ml' W fr lo : Nat} {ret' r0 : Option FieldType} {argsL rest : List Value} {ps : List FieldType} {w : Value} {a : Addr} {Cl : String}
    (w1 : (Cond.methodLink own i y).before a0 Z = true) (wd : (Cond.declares y).before a0 Z = true) (ws : (Cond.selects Cl y y).before a0 Z = true) (w2 : (Cond.instanceMethod y).before a0 Z = true) (w3 : (Cond.initialized y.cls).before a0 Z = true) (w4 : (Cond.code y bytes' ml' ret').before a0 Z = true) (hy : y.cls ≠ "java/lang/invoke/MethodHandle" ∧ y.cls ≠ "java/lang/invoke/VarHandle") (E : Exa Z h a Cl)
    (hM : OM l Z y bytes' ml' ret' ⟨fr, 0, 0, lo⟩ n0 h (.ref a :: argsL).toArray (fun v h' => v = some w ∧ h' = h) 0 0) (hd : decode bytes pc = .ok (.invokevirtual i, 3)) (hpd : parseMethodDescriptor y.desc = some ⟨ps, r0⟩) (hlen : argsL.length = ps.length) (hst : st = argsL.reverse ++ .ref a :: rest) (hsz : ls.size = ml) (hW : (rest.map fun v => v.category).sum = W)
    (hf : fr + 1 ≤ R.frames) (hlo : W + (ml' + 11) + lo ≤ R.locals) (hp : pc + 3 = pc') :
    OG p l e R s m args below meth c n0 h (mkF m pc ls st) (mkF m pc' ls (w :: rest)) := fun T locs cl sl ⟨vm0, k0, X, N0, e0, bc, bs, hS, hk⟩ => by
  have C := C.lift hS
  subst hp
  obtain ⟨cq, kq, qa, qb, qc⟩ := isOf C.2.2.1 e0 E
  obtain ⟨v, vm, ⟨T', L', cl', sl'⟩, -, X', hS', hgr, ⟨Lc, ⟨⟨rfl, hQ⟩, hL⟩, e1, e2, e3⟩, kk⟩ := X.virtualBackS C.1 C.2.2.2.1 (mv C.2.2.1 w1) (mv C.2.2.1 wd) (notFace_of_selects (args := #[]) (mv C.2.2.1 ws)) (mv C.2.2.1 ws) (mv C.2.2.1 w2) hy (backOfS (W := W) (Q := fun v h' L => (v = some w ∧ h' = h) ∧ Fr n0 L) (hM []) C.2.2.1 w4 w3 hf hlo) qa qc (g := mkF m pc ls st) rfl (by rw [C.2.2.2.2.1]; exact hsz) (Steps.refl _) (argsL := argsL) (rest := rest) (lenOf hpd hlen) hst (by show 2 * 0 + _ ≤ _; omega) (C.d hd) (fun _ _ => ⟨rfl, e0, bc, bs⟩)
  dsimp only [Pt.U, Pt.locs, Pt.cells, Pt.slots] at X' hS' hgr e1 e2 e3 kk hQ
  subst e1 e2 e3
  exact ⟨T', _, ⟨T'.vm, T'.heap.size, X', Fr.app N0 hL, hQ, bc, bs, hS.trans hS' (Nat.le_trans hk (by rw [← e0]; exact hgr)), Nat.le_of_eq (by rw [hQ])⟩, fun t q => kk.trans q⟩
theorem Exa.pl {h : Heap} {a : Addr} {C : String} (F : Exa Z h a C) : ∃ c : Cell, h[a]? = some c ∧ c.vm.isStatics = false := by obtain ⟨c, _, h1, -, -, h4, -⟩ := F; exact ⟨c, h1, h4⟩
theorem OA.pl {a : Addr} {ty : FieldType} {vs : List Value} (F : OA Z h a ty vs) : ∃ c : Cell, h[a]? = some c ∧ c.vm.isStatics = false := by obtain ⟨c, A, -⟩ := F; exact ⟨c, A.1, A.plain⟩
theorem Sta.kp {h h' : Heap} {C n d : String} {v : Value} {ws : List Addr} (F : Sta Z h C n d v) (K : Keep h h' ws) (q : ∀ a ∈ ws, ∃ c : Cell, h[a]? = some c ∧ c.vm.isStatics = false) : Sta Z h' C n d v := by
  obtain ⟨cf, i, k, f, st, cell, h1, h2, h3, h4, h5, h6, h7⟩ := F
  refine ⟨cf, i, k, f, st, cell, h1, h2, h3, h4, K.2.1 st cell h5 (fun hm => ?_), h6, h7⟩
  obtain ⟨c, e1, e2⟩ := q st hm
  cases h5.symm.trans e1
  rw [h6] at e2; cases e2
theorem OW.join {P : Value → Heap → Prop} {f : Value → JFrame} {cl' sl' : Nat} (b : (∀ v h', P v h' → OW p l e R s m args below meth c n0 Q K N h' cl' sl' (f v)) → OW p l e R s m args below meth c n0 Q K N h cl sl g) (k : ∀ v h', P v h' → OW p l e R s m args below meth c n0 Q K N h' cl' sl' (f v)) : OW p l e R s m args below meth c n0 Q K N h cl sl g := b k
theorem own_nr {v : Value} {t : FieldType} (q : v.isRef = true) (ht : t.isReference = true) : narrow t v = v ∧ fits t v = true := by
  rcases ref_cases q with rfl | ⟨_, rfl⟩ <;> cases t <;> first | (cases ht; done) | exact ⟨rfl, rfl⟩
/-! what a branch over two longs asks -/
theorem tltL {x y : Int64} (q : x < y) : ifCond.holds .lt (lcmpW x y) = true ∧ ifCond.holds .ge (lcmpW x y) = false ∧ ifCond.holds .gt (lcmpW y x) = true ∧ ifCond.holds .le (lcmpW y x) = false := by
  have a := (lw_lt x y).mpr q
  have b := (lw_gt y x).mpr q
  rw [if0, if0, if0, if0]; exact ⟨(tlt a).1, (tlt a).2.1, (tlt b).2.2.1, (tlt b).2.2.2⟩
theorem fltL {x y : Int64} (q : ¬ x < y) : ifCond.holds .lt (lcmpW x y) = false ∧ ifCond.holds .ge (lcmpW x y) = true ∧ ifCond.holds .gt (lcmpW y x) = false ∧ ifCond.holds .le (lcmpW y x) = true := by
  have a := fun z => q ((lw_lt x y).mp z)
  have b := fun z => q ((lw_gt y x).mp z)
  rw [if0, if0, if0, if0]; exact ⟨(flt a).1, (flt a).2.1, (flt b).2.2.1, (flt b).2.2.2⟩
theorem teqL {x y : Int64} (q : x = y) : ifCond.holds .eq (lcmpW x y) = true ∧ ifCond.holds .ne (lcmpW x y) = false := by
  have a := (lw_eq x y).mpr q
  rw [if0, if0]; exact teq a
theorem feqL {x y : Int64} (q : ¬ x = y) : ifCond.holds .eq (lcmpW x y) = false ∧ ifCond.holds .ne (lcmpW x y) = true := by
  have a := fun z => q ((lw_eq x y).mp z)
  rw [if0, if0]; exact feq a
theorem tlt0 {x y : Int32} (q : x < y) : if_icmp.holds .lt x y = true ∧ if_icmp.holds .ge x y = false ∧ if_icmp.holds .gt y x = true ∧ if_icmp.holds .le y x = false := tlt q
theorem OW.ldcC (C : OC p s m meth c Z own nm bytes ml ret) {i n : Nat} {t : String} (w : (Cond.stringLink own i t).before a0 Z = true) (wS : ∀ a ∈ Bundle.stringAtoms, a.before a0 Z = true) (hn : 4 * t.toList.length ≤ n) (hbig : n ≤ 536870912) (hc : cl + 2 ≤ R.cells) (hl : sl + (n + 4) ≤ R.slots) (hd : decode bytes pc = .ok (.ldc i, 2)) (hp : pc + 2 = pc')
    (k : ∀ (a : Addr) h', Ext h h' → OW p l e R s m args below meth c n0 Q K N h' (cl + 2) (sl + (n + 4)) (mkF m pc' ls (.ref a :: st))) : OW p l e R s m args below meth c n0 Q K N h cl sl (mkF m pc ls st) := fun T locs ⟨vm0, k0, X, N0, e0, bc, bs, hS, hk⟩ => by
  subst hp
  have C' := C.lift hS
  obtain ⟨a, T', h', k1, X', e', E, hS', hk', -, -, st'⟩ := RoadKit.ldcS X C.1 C'.2.2.1 C'.2.2.2.1 w wS e0 hS hk (g := mkF m pc ls st) rfl (C.d hd) hn hbig hc hl
  obtain ⟨s₂, o, q, r⟩ := k a h' E T' locs ⟨T'.vm, k1, X', N0, e', hc, hl, hS', hk'⟩
  exact ⟨s₂, o, st' _ q, r⟩
end Own
end Jvm.RoadKit
namespace Jvm.Pilot.@@N@@
open Jvm Jvm.ClassFile Sem Op Lib Jvm.Free Jvm.Stand Jvm.LawKit Jvm.RoadKit Bundle Jvm.Pilot.@@N@@.Jvm.D
abbrev HW (a0 : Array Value) (Z : State) : Prop := ∀ d ∈ tables_1, d.before a0 Z = true
theorem w0 {a0 : Array Value} {Z : State} (hw : HW a0 Z) : (Jvm.Cond.constant "com/example/kartoteka/kartoteka/format/HeadingLinkAuthoritiesPinLaw" (60 : Nat) (2147483647 : Int32)).before a0 Z = true := hw _ (List.mem_of_getElem? (i := 0) rfl)
theorem w1 {a0 : Array Value} {Z : State} (hw : HW a0 Z) : (Jvm.Cond.classLink "com/example/kartoteka/kartoteka/format/HeadingLinkAuthoritiesPinLaw" (31 : Nat) "com/example/kartoteka/kartoteka/format/HeadingLink").before a0 Z = true := hw _ (List.mem_of_getElem? (i := 1) rfl)
theorem w2 {a0 : Array Value} {Z : State} (hw : HW a0 Z) : (Jvm.Cond.instantiable "com/example/kartoteka/kartoteka/format/HeadingLink" (7 : Nat)).before a0 Z = true := hw _ (List.mem_of_getElem? (i := 2) rfl)
theorem w3 {a0 : Array Value} {Z : State} (hw : HW a0 Z) : (Jvm.Cond.initialized "com/example/kartoteka/kartoteka/format/HeadingLink").before a0 Z = true := hw _ (List.mem_of_getElem? (i := 3) rfl)
theorem w4 {a0 : Array Value} {Z : State} (hw : HW a0 Z) : (Jvm.Cond.methodLink "com/example/kartoteka/kartoteka/format/HeadingLinkAuthoritiesPinLaw" (61 : Nat) ({ cls := "com/example/kartoteka/kartoteka/format/HeadingLink", name := "<init>", desc := "(Lcom/example/kartoteka/kartoteka/format/AuthorityFile;)V" } : Jvm.MethodName)).before a0 Z = true := hw _ (List.mem_of_getElem? (i := 4) rfl)
theorem w5 {a0 : Array Value} {Z : State} (hw : HW a0 Z) : (Jvm.Cond.instanceMethod ({ cls := "com/example/kartoteka/kartoteka/format/HeadingLink", name := "<init>", desc := "(Lcom/example/kartoteka/kartoteka/format/AuthorityFile;)V" } : Jvm.MethodName)).before a0 Z = true := hw _ (List.mem_of_getElem? (i := 5) rfl)
theorem w6 {a0 : Array Value} {Z : State} (hw : HW a0 Z) : (Jvm.Cond.code ({ cls := "com/example/kartoteka/kartoteka/format/HeadingLink", name := "<init>", desc := "(Lcom/example/kartoteka/kartoteka/format/AuthorityFile;)V" } : Jvm.MethodName) prog_43_method_1_code (2 : Nat) (Option.none : Option Jvm.ClassFile.FieldType)).before a0 Z = true := hw _ (List.mem_of_getElem? (i := 6) rfl)
theorem w7 {a0 : Array Value} {Z : State} (hw : HW a0 Z) : (Jvm.Cond.methodLink "com/example/kartoteka/kartoteka/format/HeadingLink" (1 : Nat) ({ cls := "java/lang/Object", name := "<init>", desc := "()V" } : Jvm.MethodName)).before a0 Z = true := hw _ (List.mem_of_getElem? (i := 7) rfl)
theorem w8 {a0 : Array Value} {Z : State} (hw : HW a0 Z) : (Jvm.Cond.instanceMethod ({ cls := "java/lang/Object", name := "<init>", desc := "()V" } : Jvm.MethodName)).before a0 Z = true := hw _ (List.mem_of_getElem? (i := 8) rfl)
theorem w9 {a0 : Array Value} {Z : State} (hw : HW a0 Z) : (Jvm.Cond.code ({ cls := "java/lang/Object", name := "<init>", desc := "()V" } : Jvm.MethodName) object_method_1_code (1 : Nat) (Option.none : Option Jvm.ClassFile.FieldType)).before a0 Z = true := hw _ (List.mem_of_getElem? (i := 9) rfl)
theorem w10 {a0 : Array Value} {Z : State} (hw : HW a0 Z) : (Jvm.Cond.fieldLink "com/example/kartoteka/kartoteka/format/HeadingLink" (7 : Nat) "com/example/kartoteka/kartoteka/format/HeadingLink" "file" "Lcom/example/kartoteka/kartoteka/format/AuthorityFile;").before a0 Z = true := hw _ (List.mem_of_getElem? (i := 10) rfl)
theorem w11 {a0 : Array Value} {Z : State} (hw : HW a0 Z) : (Jvm.Cond.laysFinal "com/example/kartoteka/kartoteka/format/HeadingLink" "com/example/kartoteka/kartoteka/format/HeadingLink" "file" "Lcom/example/kartoteka/kartoteka/format/AuthorityFile;").before a0 Z = true := hw _ (List.mem_of_getElem? (i := 11) rfl)
theorem w12 {a0 : Array Value} {Z : State} (hw : HW a0 Z) : (Jvm.Cond.methodLink "com/example/kartoteka/kartoteka/format/HeadingLinkAuthoritiesPinLaw" (64 : Nat) ({ cls := "com/example/kartoteka/kartoteka/format/HeadingLinkAuthoritiesPinLaw", name := "step", desc := "(Lcom/example/kartoteka/kartoteka/format/HeadingLink;IIII)I" } : Jvm.MethodName)).before a0 Z = true := hw _ (List.mem_of_getElem? (i := 12) rfl)
theorem w13 {a0 : Array Value} {Z : State} (hw : HW a0 Z) : (Jvm.Cond.static ({ cls := "com/example/kartoteka/kartoteka/format/HeadingLinkAuthoritiesPinLaw", name := "step", desc := "(Lcom/example/kartoteka/kartoteka/format/HeadingLink;IIII)I" } : Jvm.MethodName)).before a0 Z = true := hw _ (List.mem_of_getElem? (i := 13) rfl)
theorem w14 {a0 : Array Value} {Z : State} (hw : HW a0 Z) : (Jvm.Cond.initialized "com/example/kartoteka/kartoteka/format/HeadingLinkAuthoritiesPinLaw").before a0 Z = true := hw _ (List.mem_of_getElem? (i := 14) rfl)
theorem w15 {a0 : Array Value} {Z : State} (hw : HW a0 Z) : (Jvm.Cond.code ({ cls := "com/example/kartoteka/kartoteka/format/HeadingLinkAuthoritiesPinLaw", name := "step", desc := "(Lcom/example/kartoteka/kartoteka/format/HeadingLink;IIII)I" } : Jvm.MethodName) method_4_code (10 : Nat) (Option.some Jvm.ClassFile.FieldType.int)).before a0 Z = true := hw _ (List.mem_of_getElem? (i := 15) rfl)
theorem w16 {a0 : Array Value} {Z : State} (hw : HW a0 Z) : (Jvm.Cond.methodLink "com/example/kartoteka/kartoteka/format/HeadingLinkAuthoritiesPinLaw" (22 : Nat) ({ cls := "com/example/kartoteka/kartoteka/format/HeadingLinkAuthoritiesPinLaw", name := "indexes", desc := "(III)[I" } : Jvm.MethodName)).before a0 Z = true := hw _ (List.mem_of_getElem? (i := 16) rfl)
theorem w17 {a0 : Array Value} {Z : State} (hw : HW a0 Z) : (Jvm.Cond.static ({ cls := "com/example/kartoteka/kartoteka/format/HeadingLinkAuthoritiesPinLaw", name := "indexes", desc := "(III)[I" } : Jvm.MethodName)).before a0 Z = true := hw _ (List.mem_of_getElem? (i := 17) rfl)
theorem w18 {a0 : Array Value} {Z : State} (hw : HW a0 Z) : (Jvm.Cond.code ({ cls := "com/example/kartoteka/kartoteka/format/HeadingLinkAuthoritiesPinLaw", name := "indexes", desc := "(III)[I" } : Jvm.MethodName) method_2_code (3 : Nat) (Option.some (Jvm.ClassFile.FieldType.array Jvm.ClassFile.FieldType.int))).before a0 Z = true := hw _ (List.mem_of_getElem? (i := 18) rfl)
theorem w19 {a0 : Array Value} {Z : State} (hw : HW a0 Z) : (Jvm.Cond.arrayClass Jvm.ClassFile.FieldType.int).before a0 Z = true := hw _ (List.mem_of_getElem? (i := 19) rfl)
theorem w20 {a0 : Array Value} {Z : State} (hw : HW a0 Z) : (Jvm.Cond.stringLink "com/example/kartoteka/kartoteka/format/HeadingLinkAuthoritiesPinLaw" (28 : Nat) "700").before a0 Z = true := hw _ (List.mem_of_getElem? (i := 20) rfl)
theorem w21 {a0 : Array Value} {Z : State} (hw : HW a0 Z) : (Jvm.Cond.initialized "java/lang/String").before a0 Z = true := hw _ (List.mem_of_getElem? (i := 21) rfl)
theorem w22 {a0 : Array Value} {Z : State} (hw : HW a0 Z) : (Jvm.Cond.instantiable "java/lang/String" (4 : Nat)).before a0 Z = true := hw _ (List.mem_of_getElem? (i := 22) rfl)
theorem w23 {a0 : Array Value} {Z : State} (hw : HW a0 Z) : (Jvm.Cond.arrayClass Jvm.ClassFile.FieldType.byte).before a0 Z = true := hw _ (List.mem_of_getElem? (i := 23) rfl)
theorem w24 {a0 : Array Value} {Z : State} (hw : HW a0 Z) : (Jvm.Cond.laysFinal "java/lang/String" "java/lang/String" "value" "[B").before a0 Z = true := hw _ (List.mem_of_getElem? (i := 24) rfl)
theorem w25 {a0 : Array Value} {Z : State} (hw : HW a0 Z) : (Jvm.Cond.laysFinal "java/lang/String" "java/lang/String" "coder" "B").before a0 Z = true := hw _ (List.mem_of_getElem? (i := 25) rfl)
theorem w26 {a0 : Array Value} {Z : State} (hw : HW a0 Z) : (Jvm.Cond.soleField "java/lang/String" "value").before a0 Z = true := hw _ (List.mem_of_getElem? (i := 26) rfl)
theorem w27 {a0 : Array Value} {Z : State} (hw : HW a0 Z) : (Jvm.Cond.soleField "java/lang/String" "coder").before a0 Z = true := hw _ (List.mem_of_getElem? (i := 27) rfl)
theorem w28 {a0 : Array Value} {Z : State} (hw : HW a0 Z) : (Jvm.Cond.methodLink "com/example/kartoteka/kartoteka/format/HeadingLinkAuthoritiesPinLaw" (30 : Nat) ({ cls := "com/example/kartoteka/kartoteka/format/HeadingLink", name := "heading", desc := "(Ljava/lang/String;I)V" } : Jvm.MethodName)).before a0 Z = true := hw _ (List.mem_of_getElem? (i := 28) rfl)
theorem w29 {a0 : Array Value} {Z : State} (hw : HW a0 Z) : (Jvm.Cond.declares ({ cls := "com/example/kartoteka/kartoteka/format/HeadingLink", name := "heading", desc := "(Ljava/lang/String;I)V" } : Jvm.MethodName)).before a0 Z = true := hw _ (List.mem_of_getElem? (i := 29) rfl)
theorem w30 {a0 : Array Value} {Z : State} (hw : HW a0 Z) : (Jvm.Cond.instanceMethod ({ cls := "com/example/kartoteka/kartoteka/format/HeadingLink", name := "heading", desc := "(Ljava/lang/String;I)V" } : Jvm.MethodName)).before a0 Z = true := hw _ (List.mem_of_getElem? (i := 30) rfl)
theorem w31 {a0 : Array Value} {Z : State} (hw : HW a0 Z) : (Jvm.Cond.selects "com/example/kartoteka/kartoteka/format/HeadingLink" ({ cls := "com/example/kartoteka/kartoteka/format/HeadingLink", name := "heading", desc := "(Ljava/lang/String;I)V" } : Jvm.MethodName) ({ cls := "com/example/kartoteka/kartoteka/format/HeadingLink", name := "heading", desc := "(Ljava/lang/String;I)V" } : Jvm.MethodName)).before a0 Z = true := hw _ (List.mem_of_getElem? (i := 31) rfl)
theorem w32 {a0 : Array Value} {Z : State} (hw : HW a0 Z) : (Jvm.Cond.code ({ cls := "com/example/kartoteka/kartoteka/format/HeadingLink", name := "heading", desc := "(Ljava/lang/String;I)V" } : Jvm.MethodName) prog_43_method_8_code (3 : Nat) (Option.none : Option Jvm.ClassFile.FieldType)).before a0 Z = true := hw _ (List.mem_of_getElem? (i := 32) rfl)
theorem w33 {a0 : Array Value} {Z : State} (hw : HW a0 Z) : (Jvm.Cond.fieldLink "com/example/kartoteka/kartoteka/format/HeadingLink" (13 : Nat) "com/example/kartoteka/kartoteka/format/HeadingLink" "tag" "Ljava/lang/String;").before a0 Z = true := hw _ (List.mem_of_getElem? (i := 33) rfl)
theorem w34 {a0 : Array Value} {Z : State} (hw : HW a0 Z) : (Jvm.Cond.lays "com/example/kartoteka/kartoteka/format/HeadingLink" "com/example/kartoteka/kartoteka/format/HeadingLink" "tag" "Ljava/lang/String;").before a0 Z = true := hw _ (List.mem_of_getElem? (i := 34) rfl)
theorem w35 {a0 : Array Value} {Z : State} (hw : HW a0 Z) : (Jvm.Cond.fieldLink "com/example/kartoteka/kartoteka/format/HeadingLink" (17 : Nat) "com/example/kartoteka/kartoteka/format/HeadingLink" "occurrence" "I").before a0 Z = true := hw _ (List.mem_of_getElem? (i := 35) rfl)
theorem w36 {a0 : Array Value} {Z : State} (hw : HW a0 Z) : (Jvm.Cond.lays "com/example/kartoteka/kartoteka/format/HeadingLink" "com/example/kartoteka/kartoteka/format/HeadingLink" "occurrence" "I").before a0 Z = true := hw _ (List.mem_of_getElem? (i := 36) rfl)
theorem w37 {a0 : Array Value} {Z : State} (hw : HW a0 Z) : (Jvm.Cond.fieldLink "com/example/kartoteka/kartoteka/format/HeadingLink" (29 : Nat) "com/example/kartoteka/kartoteka/format/HeadingLink" "broken" "Ljava/lang/CharSequence;").before a0 Z = true := hw _ (List.mem_of_getElem? (i := 37) rfl)
theorem w38 {a0 : Array Value} {Z : State} (hw : HW a0 Z) : (Jvm.Cond.lays "com/example/kartoteka/kartoteka/format/HeadingLink" "com/example/kartoteka/kartoteka/format/HeadingLink" "broken" "Ljava/lang/CharSequence;").before a0 Z = true := hw _ (List.mem_of_getElem? (i := 38) rfl)
theorem w39 {a0 : Array Value} {Z : State} (hw : HW a0 Z) : (Jvm.Cond.fieldLink "com/example/kartoteka/kartoteka/format/HeadingLink" (25 : Nat) "com/example/kartoteka/kartoteka/format/HeadingLink" "several" "[I").before a0 Z = true := hw _ (List.mem_of_getElem? (i := 39) rfl)
theorem w40 {a0 : Array Value} {Z : State} (hw : HW a0 Z) : (Jvm.Cond.lays "com/example/kartoteka/kartoteka/format/HeadingLink" "com/example/kartoteka/kartoteka/format/HeadingLink" "several" "[I").before a0 Z = true := hw _ (List.mem_of_getElem? (i := 40) rfl)
theorem w41 {a0 : Array Value} {Z : State} (hw : HW a0 Z) : (Jvm.Cond.fieldLink "com/example/kartoteka/kartoteka/format/HeadingLink" (33 : Nat) "com/example/kartoteka/kartoteka/format/HeadingLink" "one" "I").before a0 Z = true := hw _ (List.mem_of_getElem? (i := 41) rfl)
theorem w42 {a0 : Array Value} {Z : State} (hw : HW a0 Z) : (Jvm.Cond.lays "com/example/kartoteka/kartoteka/format/HeadingLink" "com/example/kartoteka/kartoteka/format/HeadingLink" "one" "I").before a0 Z = true := hw _ (List.mem_of_getElem? (i := 42) rfl)
theorem w43 {a0 : Array Value} {Z : State} (hw : HW a0 Z) : (Jvm.Cond.methodLink "com/example/kartoteka/kartoteka/format/HeadingLinkAuthoritiesPinLaw" (36 : Nat) ({ cls := "java/lang/String", name := "valueOf", desc := "(C)Ljava/lang/String;" } : Jvm.MethodName)).before a0 Z = true := hw _ (List.mem_of_getElem? (i := 43) rfl)
theorem w44 {a0 : Array Value} {Z : State} (hw : HW a0 Z) : (Jvm.Cond.static ({ cls := "java/lang/String", name := "valueOf", desc := "(C)Ljava/lang/String;" } : Jvm.MethodName)).before a0 Z = true := hw _ (List.mem_of_getElem? (i := 44) rfl)
theorem w45 {a0 : Array Value} {Z : State} (hw : HW a0 Z) : (Jvm.Cond.code ({ cls := "java/lang/String", name := "valueOf", desc := "(C)Ljava/lang/String;" } : Jvm.MethodName) jdk_42_method_139_code (1 : Nat) (Option.some (Jvm.ClassFile.FieldType.object "java/lang/String"))).before a0 Z = true := hw _ (List.mem_of_getElem? (i := 45) rfl)
theorem w46 {a0 : Array Value} {Z : State} (hw : HW a0 Z) : (Jvm.Cond.fieldLink "java/lang/String" (38 : Nat) "java/lang/String" "COMPACT_STRINGS" "Z").before a0 Z = true := hw _ (List.mem_of_getElem? (i := 46) rfl)
theorem w47 {a0 : Array Value} {Z : State} (hw : HW a0 Z) : (Jvm.Cond.methodLink "java/lang/String" (1015 : Nat) ({ cls := "java/lang/StringLatin1", name := "canEncode", desc := "(C)Z" } : Jvm.MethodName)).before a0 Z = true := hw _ (List.mem_of_getElem? (i := 47) rfl)
theorem w48 {a0 : Array Value} {Z : State} (hw : HW a0 Z) : (Jvm.Cond.static ({ cls := "java/lang/StringLatin1", name := "canEncode", desc := "(C)Z" } : Jvm.MethodName)).before a0 Z = true := hw _ (List.mem_of_getElem? (i := 48) rfl)
theorem w49 {a0 : Array Value} {Z : State} (hw : HW a0 Z) : (Jvm.Cond.initialized "java/lang/StringLatin1").before a0 Z = true := hw _ (List.mem_of_getElem? (i := 49) rfl)
theorem w50 {a0 : Array Value} {Z : State} (hw : HW a0 Z) : (Jvm.Cond.code ({ cls := "java/lang/StringLatin1", name := "canEncode", desc := "(C)Z" } : Jvm.MethodName) jdk_43_method_3_code (1 : Nat) (Option.some Jvm.ClassFile.FieldType.boolean)).before a0 Z = true := hw _ (List.mem_of_getElem? (i := 50) rfl)
theorem w51 {a0 : Array Value} {Z : State} (hw : HW a0 Z) : (Jvm.Cond.classLink "java/lang/String" (10 : Nat) "java/lang/String").before a0 Z = true := hw _ (List.mem_of_getElem? (i := 51) rfl)
theorem w52 {a0 : Array Value} {Z : State} (hw : HW a0 Z) : (Jvm.Cond.methodLink "java/lang/String" (1018 : Nat) ({ cls := "java/lang/StringLatin1", name := "toBytes", desc := "(C)[B" } : Jvm.MethodName)).before a0 Z = true := hw _ (List.mem_of_getElem? (i := 52) rfl)
theorem w53 {a0 : Array Value} {Z : State} (hw : HW a0 Z) : (Jvm.Cond.static ({ cls := "java/lang/StringLatin1", name := "toBytes", desc := "(C)[B" } : Jvm.MethodName)).before a0 Z = true := hw _ (List.mem_of_getElem? (i := 53) rfl)
theorem w54 {a0 : Array Value} {Z : State} (hw : HW a0 Z) : (Jvm.Cond.code ({ cls := "java/lang/StringLatin1", name := "toBytes", desc := "(C)[B" } : Jvm.MethodName) jdk_43_method_46_code (1 : Nat) (Option.some (Jvm.ClassFile.FieldType.array Jvm.ClassFile.FieldType.byte))).before a0 Z = true := hw _ (List.mem_of_getElem? (i := 54) rfl)
theorem w55 {a0 : Array Value} {Z : State} (hw : HW a0 Z) : (Jvm.Cond.methodLink "java/lang/String" (209 : Nat) ({ cls := "java/lang/String", name := "<init>", desc := "([BB)V" } : Jvm.MethodName)).before a0 Z = true := hw _ (List.mem_of_getElem? (i := 55) rfl)
theorem w56 {a0 : Array Value} {Z : State} (hw : HW a0 Z) : (Jvm.Cond.instanceMethod ({ cls := "java/lang/String", name := "<init>", desc := "([BB)V" } : Jvm.MethodName)).before a0 Z = true := hw _ (List.mem_of_getElem? (i := 56) rfl)
theorem w58 {a0 : Array Value} {Z : State} (hw : HW a0 Z) : (Jvm.Cond.code ({ cls := "java/lang/String", name := "<init>", desc := "([BB)V" } : Jvm.MethodName) jdk_42_method_151_code (3 : Nat) (Option.none : Option Jvm.ClassFile.FieldType)).before a0 Z = true := hw _ (List.mem_of_getElem? (i := 58) rfl)
theorem w59 {a0 : Array Value} {Z : State} (hw : HW a0 Z) : (Jvm.Cond.methodLink "java/lang/String" (1 : Nat) ({ cls := "java/lang/Object", name := "<init>", desc := "()V" } : Jvm.MethodName)).before a0 Z = true := hw _ (List.mem_of_getElem? (i := 59) rfl)
theorem w60 {a0 : Array Value} {Z : State} (hw : HW a0 Z) : (Jvm.Cond.fieldLink "java/lang/String" (9 : Nat) "java/lang/String" "value" "[B").before a0 Z = true := hw _ (List.mem_of_getElem? (i := 60) rfl)
theorem w61 {a0 : Array Value} {Z : State} (hw : HW a0 Z) : (Jvm.Cond.fieldLink "java/lang/String" (15 : Nat) "java/lang/String" "coder" "B").before a0 Z = true := hw _ (List.mem_of_getElem? (i := 61) rfl)
theorem w62 {a0 : Array Value} {Z : State} (hw : HW a0 Z) : (Jvm.Cond.methodLink "com/example/kartoteka/kartoteka/format/HeadingLinkAuthoritiesPinLaw" (42 : Nat) ({ cls := "com/example/kartoteka/kartoteka/format/HeadingLink", name := "broken", desc := "(Ljava/lang/CharSequence;)V" } : Jvm.MethodName)).before a0 Z = true := hw _ (List.mem_of_getElem? (i := 62) rfl)
theorem w63 {a0 : Array Value} {Z : State} (hw : HW a0 Z) : (Jvm.Cond.declares ({ cls := "com/example/kartoteka/kartoteka/format/HeadingLink", name := "broken", desc := "(Ljava/lang/CharSequence;)V" } : Jvm.MethodName)).before a0 Z = true := hw _ (List.mem_of_getElem? (i := 63) rfl)
theorem w64 {a0 : Array Value} {Z : State} (hw : HW a0 Z) : (Jvm.Cond.instanceMethod ({ cls := "com/example/kartoteka/kartoteka/format/HeadingLink", name := "broken", desc := "(Ljava/lang/CharSequence;)V" } : Jvm.MethodName)).before a0 Z = true := hw _ (List.mem_of_getElem? (i := 64) rfl)
theorem w65 {a0 : Array Value} {Z : State} (hw : HW a0 Z) : (Jvm.Cond.selects "com/example/kartoteka/kartoteka/format/HeadingLink" ({ cls := "com/example/kartoteka/kartoteka/format/HeadingLink", name := "broken", desc := "(Ljava/lang/CharSequence;)V" } : Jvm.MethodName) ({ cls := "com/example/kartoteka/kartoteka/format/HeadingLink", name := "broken", desc := "(Ljava/lang/CharSequence;)V" } : Jvm.MethodName)).before a0 Z = true := hw _ (List.mem_of_getElem? (i := 65) rfl)
theorem w66 {a0 : Array Value} {Z : State} (hw : HW a0 Z) : (Jvm.Cond.code ({ cls := "com/example/kartoteka/kartoteka/format/HeadingLink", name := "broken", desc := "(Ljava/lang/CharSequence;)V" } : Jvm.MethodName) prog_43_method_9_code (2 : Nat) (Option.none : Option Jvm.ClassFile.FieldType)).before a0 Z = true := hw _ (List.mem_of_getElem? (i := 66) rfl)
theorem w67 {a0 : Array Value} {Z : State} (hw : HW a0 Z) : (Jvm.Cond.fieldLink "com/example/kartoteka/kartoteka/format/HeadingLink" (52 : Nat) "com/example/kartoteka/kartoteka/format/LinkStatus" "LINK_BROKEN" "Lcom/example/kartoteka/kartoteka/format/LinkStatus;").before a0 Z = true := hw _ (List.mem_of_getElem? (i := 67) rfl)
theorem w68 {a0 : Array Value} {Z : State} (hw : HW a0 Z) : (Jvm.Cond.initialized "com/example/kartoteka/kartoteka/format/LinkStatus").before a0 Z = true := hw _ (List.mem_of_getElem? (i := 68) rfl)
theorem w69 {a0 : Array Value} {Z : State} (hw : HW a0 Z) : (Jvm.Cond.laysStatic "com/example/kartoteka/kartoteka/format/LinkStatus" "LINK_BROKEN" "Lcom/example/kartoteka/kartoteka/format/LinkStatus;").before a0 Z = true := hw _ (List.mem_of_getElem? (i := 69) rfl)
theorem w70 {a0 : Array Value} {Z : State} (hw : HW a0 Z) : (Jvm.Cond.fieldLink "com/example/kartoteka/kartoteka/format/HeadingLink" (21 : Nat) "com/example/kartoteka/kartoteka/format/HeadingLink" "status" "Lcom/example/kartoteka/kartoteka/format/LinkStatus;").before a0 Z = true := hw _ (List.mem_of_getElem? (i := 70) rfl)
theorem w71 {a0 : Array Value} {Z : State} (hw : HW a0 Z) : (Jvm.Cond.lays "com/example/kartoteka/kartoteka/format/HeadingLink" "com/example/kartoteka/kartoteka/format/HeadingLink" "status" "Lcom/example/kartoteka/kartoteka/format/LinkStatus;").before a0 Z = true := hw _ (List.mem_of_getElem? (i := 71) rfl)
theorem w72 {a0 : Array Value} {Z : State} (hw : HW a0 Z) : (Jvm.Cond.methodLink "com/example/kartoteka/kartoteka/format/HeadingLinkAuthoritiesPinLaw" (68 : Nat) ({ cls := "com/example/kartoteka/kartoteka/format/HeadingLink", name := "authorities", desc := "()I" } : Jvm.MethodName)).before a0 Z = true := hw _ (List.mem_of_getElem? (i := 72) rfl)
theorem w73 {a0 : Array Value} {Z : State} (hw : HW a0 Z) : (Jvm.Cond.declares ({ cls := "com/example/kartoteka/kartoteka/format/HeadingLink", name := "authorities", desc := "()I" } : Jvm.MethodName)).before a0 Z = true := hw _ (List.mem_of_getElem? (i := 73) rfl)
theorem w74 {a0 : Array Value} {Z : State} (hw : HW a0 Z) : (Jvm.Cond.instanceMethod ({ cls := "com/example/kartoteka/kartoteka/format/HeadingLink", name := "authorities", desc := "()I" } : Jvm.MethodName)).before a0 Z = true := hw _ (List.mem_of_getElem? (i := 74) rfl)
theorem w75 {a0 : Array Value} {Z : State} (hw : HW a0 Z) : (Jvm.Cond.selects "com/example/kartoteka/kartoteka/format/HeadingLink" ({ cls := "com/example/kartoteka/kartoteka/format/HeadingLink", name := "authorities", desc := "()I" } : Jvm.MethodName) ({ cls := "com/example/kartoteka/kartoteka/format/HeadingLink", name := "authorities", desc := "()I" } : Jvm.MethodName)).before a0 Z = true := hw _ (List.mem_of_getElem? (i := 75) rfl)
theorem w76 {a0 : Array Value} {Z : State} (hw : HW a0 Z) : (Jvm.Cond.code ({ cls := "com/example/kartoteka/kartoteka/format/HeadingLink", name := "authorities", desc := "()I" } : Jvm.MethodName) prog_43_method_5_code (1 : Nat) (Option.some Jvm.ClassFile.FieldType.int)).before a0 Z = true := hw _ (List.mem_of_getElem? (i := 76) rfl)
theorem w77 {a0 : Array Value} {Z : State} (hw : HW a0 Z) : (Jvm.Cond.methodLink "com/example/kartoteka/kartoteka/format/HeadingLinkAuthoritiesPinLaw" (57 : Nat) ({ cls := "com/example/kartoteka/kartoteka/format/HeadingLink", name := "unknown", desc := "()V" } : Jvm.MethodName)).before a0 Z = true := hw _ (List.mem_of_getElem? (i := 77) rfl)
theorem w78 {a0 : Array Value} {Z : State} (hw : HW a0 Z) : (Jvm.Cond.declares ({ cls := "com/example/kartoteka/kartoteka/format/HeadingLink", name := "unknown", desc := "()V" } : Jvm.MethodName)).before a0 Z = true := hw _ (List.mem_of_getElem? (i := 78) rfl)
theorem w79 {a0 : Array Value} {Z : State} (hw : HW a0 Z) : (Jvm.Cond.instanceMethod ({ cls := "com/example/kartoteka/kartoteka/format/HeadingLink", name := "unknown", desc := "()V" } : Jvm.MethodName)).before a0 Z = true := hw _ (List.mem_of_getElem? (i := 79) rfl)
theorem w80 {a0 : Array Value} {Z : State} (hw : HW a0 Z) : (Jvm.Cond.selects "com/example/kartoteka/kartoteka/format/HeadingLink" ({ cls := "com/example/kartoteka/kartoteka/format/HeadingLink", name := "unknown", desc := "()V" } : Jvm.MethodName) ({ cls := "com/example/kartoteka/kartoteka/format/HeadingLink", name := "unknown", desc := "()V" } : Jvm.MethodName)).before a0 Z = true := hw _ (List.mem_of_getElem? (i := 80) rfl)
theorem w81 {a0 : Array Value} {Z : State} (hw : HW a0 Z) : (Jvm.Cond.code ({ cls := "com/example/kartoteka/kartoteka/format/HeadingLink", name := "unknown", desc := "()V" } : Jvm.MethodName) prog_43_method_12_code (1 : Nat) (Option.none : Option Jvm.ClassFile.FieldType)).before a0 Z = true := hw _ (List.mem_of_getElem? (i := 81) rfl)
theorem w82 {a0 : Array Value} {Z : State} (hw : HW a0 Z) : (Jvm.Cond.fieldLink "com/example/kartoteka/kartoteka/format/HeadingLink" (64 : Nat) "com/example/kartoteka/kartoteka/format/LinkStatus" "UNKNOWN" "Lcom/example/kartoteka/kartoteka/format/LinkStatus;").before a0 Z = true := hw _ (List.mem_of_getElem? (i := 82) rfl)
theorem w83 {a0 : Array Value} {Z : State} (hw : HW a0 Z) : (Jvm.Cond.laysStatic "com/example/kartoteka/kartoteka/format/LinkStatus" "UNKNOWN" "Lcom/example/kartoteka/kartoteka/format/LinkStatus;").before a0 Z = true := hw _ (List.mem_of_getElem? (i := 83) rfl)
theorem w84 {a0 : Array Value} {Z : State} (hw : HW a0 Z) : (Jvm.Cond.fieldLink "com/example/kartoteka/kartoteka/format/HeadingLinkAuthoritiesPinLaw" (16 : Nat) "com/example/kartoteka/kartoteka/format/LinkStatus" "ACCEPTED" "Lcom/example/kartoteka/kartoteka/format/LinkStatus;").before a0 Z = true := hw _ (List.mem_of_getElem? (i := 84) rfl)
theorem w85 {a0 : Array Value} {Z : State} (hw : HW a0 Z) : (Jvm.Cond.laysStatic "com/example/kartoteka/kartoteka/format/LinkStatus" "ACCEPTED" "Lcom/example/kartoteka/kartoteka/format/LinkStatus;").before a0 Z = true := hw _ (List.mem_of_getElem? (i := 85) rfl)
theorem w86 {a0 : Array Value} {Z : State} (hw : HW a0 Z) : (Jvm.Cond.methodLink "com/example/kartoteka/kartoteka/format/HeadingLinkAuthoritiesPinLaw" (54 : Nat) ({ cls := "com/example/kartoteka/kartoteka/format/HeadingLink", name := "found", desc := "(Lcom/example/kartoteka/kartoteka/format/LinkStatus;[I)V" } : Jvm.MethodName)).before a0 Z = true := hw _ (List.mem_of_getElem? (i := 86) rfl)
theorem w87 {a0 : Array Value} {Z : State} (hw : HW a0 Z) : (Jvm.Cond.declares ({ cls := "com/example/kartoteka/kartoteka/format/HeadingLink", name := "found", desc := "(Lcom/example/kartoteka/kartoteka/format/LinkStatus;[I)V" } : Jvm.MethodName)).before a0 Z = true := hw _ (List.mem_of_getElem? (i := 87) rfl)
theorem w88 {a0 : Array Value} {Z : State} (hw : HW a0 Z) : (Jvm.Cond.instanceMethod ({ cls := "com/example/kartoteka/kartoteka/format/HeadingLink", name := "found", desc := "(Lcom/example/kartoteka/kartoteka/format/LinkStatus;[I)V" } : Jvm.MethodName)).before a0 Z = true := hw _ (List.mem_of_getElem? (i := 88) rfl)
theorem w89 {a0 : Array Value} {Z : State} (hw : HW a0 Z) : (Jvm.Cond.selects "com/example/kartoteka/kartoteka/format/HeadingLink" ({ cls := "com/example/kartoteka/kartoteka/format/HeadingLink", name := "found", desc := "(Lcom/example/kartoteka/kartoteka/format/LinkStatus;[I)V" } : Jvm.MethodName) ({ cls := "com/example/kartoteka/kartoteka/format/HeadingLink", name := "found", desc := "(Lcom/example/kartoteka/kartoteka/format/LinkStatus;[I)V" } : Jvm.MethodName)).before a0 Z = true := hw _ (List.mem_of_getElem? (i := 89) rfl)
theorem w90 {a0 : Array Value} {Z : State} (hw : HW a0 Z) : (Jvm.Cond.code ({ cls := "com/example/kartoteka/kartoteka/format/HeadingLink", name := "found", desc := "(Lcom/example/kartoteka/kartoteka/format/LinkStatus;[I)V" } : Jvm.MethodName) prog_43_method_11_code (3 : Nat) (Option.none : Option Jvm.ClassFile.FieldType)).before a0 Z = true := hw _ (List.mem_of_getElem? (i := 90) rfl)
theorem w91 {a0 : Array Value} {Z : State} (hw : HW a0 Z) : (Jvm.Cond.methodLink "com/example/kartoteka/kartoteka/format/HeadingLink" (57 : Nat) ({ cls := "com/example/kartoteka/kartoteka/format/HeadingLink", name := "found", desc := "(Lcom/example/kartoteka/kartoteka/format/LinkStatus;I)V" } : Jvm.MethodName)).before a0 Z = true := hw _ (List.mem_of_getElem? (i := 91) rfl)
theorem w92 {a0 : Array Value} {Z : State} (hw : HW a0 Z) : (Jvm.Cond.declares ({ cls := "com/example/kartoteka/kartoteka/format/HeadingLink", name := "found", desc := "(Lcom/example/kartoteka/kartoteka/format/LinkStatus;I)V" } : Jvm.MethodName)).before a0 Z = true := hw _ (List.mem_of_getElem? (i := 92) rfl)
theorem w93 {a0 : Array Value} {Z : State} (hw : HW a0 Z) : (Jvm.Cond.instanceMethod ({ cls := "com/example/kartoteka/kartoteka/format/HeadingLink", name := "found", desc := "(Lcom/example/kartoteka/kartoteka/format/LinkStatus;I)V" } : Jvm.MethodName)).before a0 Z = true := hw _ (List.mem_of_getElem? (i := 93) rfl)
theorem w94 {a0 : Array Value} {Z : State} (hw : HW a0 Z) : (Jvm.Cond.selects "com/example/kartoteka/kartoteka/format/HeadingLink" ({ cls := "com/example/kartoteka/kartoteka/format/HeadingLink", name := "found", desc := "(Lcom/example/kartoteka/kartoteka/format/LinkStatus;I)V" } : Jvm.MethodName) ({ cls := "com/example/kartoteka/kartoteka/format/HeadingLink", name := "found", desc := "(Lcom/example/kartoteka/kartoteka/format/LinkStatus;I)V" } : Jvm.MethodName)).before a0 Z = true := hw _ (List.mem_of_getElem? (i := 94) rfl)
theorem w95 {a0 : Array Value} {Z : State} (hw : HW a0 Z) : (Jvm.Cond.code ({ cls := "com/example/kartoteka/kartoteka/format/HeadingLink", name := "found", desc := "(Lcom/example/kartoteka/kartoteka/format/LinkStatus;I)V" } : Jvm.MethodName) prog_43_method_10_code (3 : Nat) (Option.none : Option Jvm.ClassFile.FieldType)).before a0 Z = true := hw _ (List.mem_of_getElem? (i := 95) rfl)
theorem w96 {a0 : Array Value} {Z : State} (hw : HW a0 Z) : (Jvm.Cond.methodLink "com/example/kartoteka/kartoteka/format/HeadingLinkAuthoritiesPinLaw" (46 : Nat) ({ cls := "com/example/kartoteka/kartoteka/format/HeadingLinkAuthoritiesPinLaw", name := "single", desc := "(I)Lcom/example/kartoteka/kartoteka/format/LinkStatus;" } : Jvm.MethodName)).before a0 Z = true := hw _ (List.mem_of_getElem? (i := 96) rfl)
theorem w97 {a0 : Array Value} {Z : State} (hw : HW a0 Z) : (Jvm.Cond.static ({ cls := "com/example/kartoteka/kartoteka/format/HeadingLinkAuthoritiesPinLaw", name := "single", desc := "(I)Lcom/example/kartoteka/kartoteka/format/LinkStatus;" } : Jvm.MethodName)).before a0 Z = true := hw _ (List.mem_of_getElem? (i := 97) rfl)
theorem w98 {a0 : Array Value} {Z : State} (hw : HW a0 Z) : (Jvm.Cond.code ({ cls := "com/example/kartoteka/kartoteka/format/HeadingLinkAuthoritiesPinLaw", name := "single", desc := "(I)Lcom/example/kartoteka/kartoteka/format/LinkStatus;" } : Jvm.MethodName) method_3_code (1 : Nat) (Option.some (Jvm.ClassFile.FieldType.object "com/example/kartoteka/kartoteka/format/LinkStatus"))).before a0 Z = true := hw _ (List.mem_of_getElem? (i := 98) rfl)
theorem w99 {a0 : Array Value} {Z : State} (hw : HW a0 Z) : (Jvm.Cond.fieldLink "com/example/kartoteka/kartoteka/format/HeadingLinkAuthoritiesPinLaw" (19 : Nat) "com/example/kartoteka/kartoteka/format/LinkStatus" "VARIANT" "Lcom/example/kartoteka/kartoteka/format/LinkStatus;").before a0 Z = true := hw _ (List.mem_of_getElem? (i := 99) rfl)
theorem w100 {a0 : Array Value} {Z : State} (hw : HW a0 Z) : (Jvm.Cond.laysStatic "com/example/kartoteka/kartoteka/format/LinkStatus" "VARIANT" "Lcom/example/kartoteka/kartoteka/format/LinkStatus;").before a0 Z = true := hw _ (List.mem_of_getElem? (i := 100) rfl)
theorem w101 {a0 : Array Value} {Z : State} (hw : HW a0 Z) : (Jvm.Cond.methodLink "com/example/kartoteka/kartoteka/format/HeadingLinkAuthoritiesPinLaw" (50 : Nat) ({ cls := "com/example/kartoteka/kartoteka/format/HeadingLink", name := "found", desc := "(Lcom/example/kartoteka/kartoteka/format/LinkStatus;I)V" } : Jvm.MethodName)).before a0 Z = true := hw _ (List.mem_of_getElem? (i := 101) rfl)
theorem w102 {a0 : Array Value} {Z : State} (hw : HW a0 Z) : (Jvm.Cond.fieldLink "com/example/kartoteka/kartoteka/format/HeadingLink" (61 : Nat) "com/example/kartoteka/kartoteka/format/LinkStatus" "AMBIGUOUS" "Lcom/example/kartoteka/kartoteka/format/LinkStatus;").before a0 Z = true := hw _ (List.mem_of_getElem? (i := 102) rfl)
theorem w103 {a0 : Array Value} {Z : State} (hw : HW a0 Z) : (Jvm.Cond.laysStatic "com/example/kartoteka/kartoteka/format/LinkStatus" "AMBIGUOUS" "Lcom/example/kartoteka/kartoteka/format/LinkStatus;").before a0 Z = true := hw _ (List.mem_of_getElem? (i := 103) rfl)
theorem w104 {a0 : Array Value} {Z : State} (hw : HW a0 Z) : (Jvm.Cond.fieldLink "com/example/kartoteka/kartoteka/format/HeadingLinkAuthoritiesPinLaw" (13 : Nat) "com/example/kartoteka/kartoteka/format/LinkStatus" "LINKED_DIFFERS" "Lcom/example/kartoteka/kartoteka/format/LinkStatus;").before a0 Z = true := hw _ (List.mem_of_getElem? (i := 104) rfl)
theorem w105 {a0 : Array Value} {Z : State} (hw : HW a0 Z) : (Jvm.Cond.laysStatic "com/example/kartoteka/kartoteka/format/LinkStatus" "LINKED_DIFFERS" "Lcom/example/kartoteka/kartoteka/format/LinkStatus;").before a0 Z = true := hw _ (List.mem_of_getElem? (i := 105) rfl)
theorem w106 {a0 : Array Value} {Z : State} (hw : HW a0 Z) : (Jvm.Cond.fieldLink "com/example/kartoteka/kartoteka/format/HeadingLinkAuthoritiesPinLaw" (7 : Nat) "com/example/kartoteka/kartoteka/format/LinkStatus" "LINKED" "Lcom/example/kartoteka/kartoteka/format/LinkStatus;").before a0 Z = true := hw _ (List.mem_of_getElem? (i := 106) rfl)
theorem w107 {a0 : Array Value} {Z : State} (hw : HW a0 Z) : (Jvm.Cond.laysStatic "com/example/kartoteka/kartoteka/format/LinkStatus" "LINKED" "Lcom/example/kartoteka/kartoteka/format/LinkStatus;").before a0 Z = true := hw _ (List.mem_of_getElem? (i := 107) rfl)
theorem pd_0 : parseMethodDescriptor "(C)Z" = some ⟨[.char], some .boolean⟩ := by decide +kernel
theorem pd_1 : parseMethodDescriptor "(C)[B" = some ⟨[.char], some (.array .byte)⟩ := by decide +kernel
theorem pd_2 : parseMethodDescriptor "([BB)V" = some ⟨[(.array .byte), .byte], none⟩ := by decide +kernel
theorem pd_3 : parseMethodDescriptor "(Lcom/example/kartoteka/kartoteka/format/LinkStatus;I)V" = some ⟨[(.object "com/example/kartoteka/kartoteka/format/LinkStatus"), .int], none⟩ := by decide +kernel
theorem pd_4 : parseMethodDescriptor "(III)[I" = some ⟨[.int, .int, .int], some (.array .int)⟩ := by decide +kernel
theorem pd_5 : parseMethodDescriptor "(Ljava/lang/String;I)V" = some ⟨[(.object "java/lang/String"), .int], none⟩ := by decide +kernel
theorem pd_6 : parseMethodDescriptor "(C)Ljava/lang/String;" = some ⟨[.char], some (.object "java/lang/String")⟩ := by decide +kernel
theorem pd_7 : parseMethodDescriptor "(Ljava/lang/CharSequence;)V" = some ⟨[(.object "java/lang/CharSequence")], none⟩ := by decide +kernel
theorem pd_8 : parseMethodDescriptor "(I)Lcom/example/kartoteka/kartoteka/format/LinkStatus;" = some ⟨[.int], some (.object "com/example/kartoteka/kartoteka/format/LinkStatus")⟩ := by decide +kernel
theorem pd_9 : parseMethodDescriptor "(Lcom/example/kartoteka/kartoteka/format/LinkStatus;[I)V" = some ⟨[(.object "com/example/kartoteka/kartoteka/format/LinkStatus"), (.array .int)], none⟩ := by decide +kernel
theorem pd_10 : parseMethodDescriptor "()V" = some ⟨[], none⟩ := by decide +kernel
theorem pd_11 : parseMethodDescriptor "(Lcom/example/kartoteka/kartoteka/format/AuthorityFile;)V" = some ⟨[(.object "com/example/kartoteka/kartoteka/format/AuthorityFile")], none⟩ := by decide +kernel
theorem pd_12 : parseMethodDescriptor "(Lcom/example/kartoteka/kartoteka/format/HeadingLink;IIII)I" = some ⟨[(.object "com/example/kartoteka/kartoteka/format/HeadingLink"), .int, .int, .int, .int], some .int⟩ := by decide +kernel
theorem pd_13 : parseMethodDescriptor "()I" = some ⟨[], some .int⟩ := by decide +kernel
theorem pn_0 : plainName "java/lang/StringLatin1" = true := by first | (simp [plainName, overriddenIn]; done) | decide +kernel
theorem pn_1 : plainName "java/lang/String" = true := by first | (simp [plainName, overriddenIn]; done) | decide +kernel
theorem pn_2 : plainName "com/example/kartoteka/kartoteka/format/HeadingLink" = true := by first | (simp [plainName, overriddenIn]; done) | decide +kernel
theorem pn_3 : plainName "com/example/kartoteka/kartoteka/format/HeadingLinkAuthoritiesPinLaw" = true := by first | (simp [plainName, overriddenIn]; done) | decide +kernel
theorem wS {a0 : Array Value} {Z : State} (hw : HW a0 Z) : ∀ a ∈ Bundle.stringAtoms, a.before a0 Z = true := by
  intro d hd
  simp only [Bundle.stringAtoms, Bundle.sN, List.mem_cons, List.not_mem_nil, or_false] at hd
  rcases hd with rfl | rfl | rfl | rfl | rfl | rfl | rfl
  · exact (w21 hw)
  · exact (w22 hw)
  · exact (w23 hw)
  · exact (w24 hw)
  · exact (w25 hw)
  · exact (w26 hw)
  · exact (w27 hw)
def HLS (Z : State) (h : Heap) (a : Addr) (tg : Value) (oc : Int32) (st sv br : Value) (on : Int32) : Prop := Exa Z h a "com/example/kartoteka/kartoteka/format/HeadingLink" ∧ Fld Z h a "com/example/kartoteka/kartoteka/format/HeadingLink" "tag" "Ljava/lang/String;" tg ∧ Fld Z h a "com/example/kartoteka/kartoteka/format/HeadingLink" "occurrence" "I" (.int oc) ∧ Fld Z h a "com/example/kartoteka/kartoteka/format/HeadingLink" "status" "Lcom/example/kartoteka/kartoteka/format/LinkStatus;" st ∧ Fld Z h a "com/example/kartoteka/kartoteka/format/HeadingLink" "several" "[I" sv ∧ Fld Z h a "com/example/kartoteka/kartoteka/format/HeadingLink" "broken" "Ljava/lang/CharSequence;" br ∧ Fld Z h a "com/example/kartoteka/kartoteka/format/HeadingLink" "one" "I" (.int on)
def AUTHS (Z : State) (h : Heap) (a : Addr) (r : Int32) : Prop := ∃ tg oc st sv br on, HLS Z h a tg oc st sv br on ∧ ((∃ (q : Addr) (vs : List Value), sv = .ref q ∧ OA Z h q .int vs ∧ vs.length.toInt32 = r) ∨ (sv = .null ∧ (∃ q : Addr, br = .ref q) ∧ r = 1) ∨ (sv = .null ∧ br = .null ∧ r = if on < (0 : Int32) then (0 : Int32) else (1 : Int32)))
theorem d7_0 : decode jdk_43_method_3_code 0 = .ok (.iload_n 0, 1) := by decide +kernel
theorem d7_1 : decode jdk_43_method_3_code 1 = .ok (.sipush 255, 3) := by decide +kernel
theorem d7_4 : decode jdk_43_method_3_code 4 = .ok (.if_icmp .gt 7, 3) := by decide +kernel
theorem d7_7 : decode jdk_43_method_3_code 7 = .ok (.iconst 1, 1) := by decide +kernel
theorem d7_8 : decode jdk_43_method_3_code 8 = .ok (.goto 4, 3) := by decide +kernel
theorem d7_11 : decode jdk_43_method_3_code 11 = .ok (.iconst 0, 1) := by decide +kernel
theorem d7_12 : decode jdk_43_method_3_code 12 = .ok (.ireturn, 1) := by decide +kernel
def F7 (x0 : Int32) : Int32 := (if (255 : Int32) < x0 then (0 : Int32) else (1 : Int32))
set_option maxRecDepth 65536 in
set_option maxHeartbeats 40000000 in
theorem b7 {l : Launch} {Z : State} {a0 : Array Value} (hw : HW a0 Z) (x0 : Int32) {n0 : Nat} {h : Heap}  : OM l Z (⟨"java/lang/StringLatin1", "canEncode", "(C)Z"⟩ : MethodName) jdk_43_method_3_code 1 (some .boolean) ⟨0, 0, 0, 0⟩ n0 h #[(.int x0)] (fun v h' => v = some (.int (nar .boolean (F7 x0))) ∧ h' = h) 0 0 := by
  refine OM.of_body (ls := #[.val (.int x0)]) (plainFor_of_name pn_0) (fun m => by first | (simp [entryFrame, mkF, argsToLocals, Value.category]; done) | rfl) ?_
  intro p e s m below meth c C
  refine OG.ow (OG.iloadN C d7_0 rfl (pc' := 1) rfl) ?_
  refine OG.ow (OG.sipush C d7_1 (z := (255 : Int32)) (by decide) (pc' := 4) rfl) ?_
  refine OG.ow (OG.ite (α := Int32) (P := (255 : Int32) < x0) (f := fun v => (mkF m 12 #[.val (.int x0)] [(.int v)])) (x := (0 : Int32)) (y := (1 : Int32)) (fun hc => ?_) (fun hc => ?_)) ?_
  · refine OG.trans (OG.icmpYes C d7_4 (tlt hc).2.2.1 (by decide) (pc' := 11) (by decide)) ?_
    refine OG.trans (OG.iconst C d7_11 (z := (0 : Int32)) rfl (pc' := 12) rfl) ?_
    exact OG.refl
  · refine OG.trans (OG.icmpNo C d7_4 (flt hc).2.2.1 (pc' := 7) rfl) ?_
    refine OG.trans (OG.iconst C d7_7 (z := (1 : Int32)) rfl (pc' := 8) rfl) ?_
    refine OG.trans (OG.goto C d7_8 (by decide) (pc' := 12) (by decide)) ?_
    exact OG.refl
  refine OW.retN (t := .boolean) C (by simp) d7_12 (by decide) (by decide) ?_
  refine ⟨congrArg (fun z => some (Value.int (nar .boolean z))) ?_, rfl⟩
  show _ = F7 x0
  rfl
theorem d8_0 : decode jdk_43_method_46_code 0 = .ok (.iconst 1, 1) := by decide +kernel
theorem d8_1 : decode jdk_43_method_46_code 1 = .ok (.newarray .byte, 2) := by decide +kernel
theorem d8_3 : decode jdk_43_method_46_code 3 = .ok (.dup, 1) := by decide +kernel
theorem d8_4 : decode jdk_43_method_46_code 4 = .ok (.iconst 0, 1) := by decide +kernel
theorem d8_5 : decode jdk_43_method_46_code 5 = .ok (.iload_n 0, 1) := by decide +kernel
theorem d8_6 : decode jdk_43_method_46_code 6 = .ok (.i2b, 1) := by decide +kernel
theorem d8_7 : decode jdk_43_method_46_code 7 = .ok (.bastore, 1) := by decide +kernel
theorem d8_8 : decode jdk_43_method_46_code 8 = .ok (.areturn, 1) := by decide +kernel
set_option maxRecDepth 65536 in
set_option maxHeartbeats 40000000 in
theorem b8 {l : Launch} {Z : State} {a0 : Array Value} (hw : HW a0 Z) (x0 : Int32) {n0 : Nat} {h : Heap} (Z0 : n0 ≤ h.size) : OM l Z (⟨"java/lang/StringLatin1", "toBytes", "(C)[B"⟩ : MethodName) jdk_43_method_46_code 1 (some (.array .byte)) ⟨0, 1, 1, 0⟩ n0 h #[(.int x0)] (fun v h' => ∃ a : Addr, v = some (.ref a) ∧ h.size ≤ a ∧ Keep h h' []) 1 1 := by
  refine OM.of_body (ls := #[.val (.int x0)]) (plainFor_of_name pn_0) (fun m => by first | (simp [entryFrame, mkF, argsToLocals, Value.category]; done) | rfl) ?_
  intro p e s m below meth c C
  refine OG.ow (OG.iconst C d8_0 (z := (1 : Int32)) rfl (pc' := 1) rfl) ?_
  refine OW.newP C (ty := .byte) rfl (w23 hw) (by decide) (cap := 1) (by decide) (by decide) d8_1 (by decide) (by decide) (pc' := 3) rfl ?_
  intro a1 h2 ga1 Eh2 Aa1
  refine OG.ow (OG.dup C d8_3 rfl (pc' := 4) rfl) ?_
  refine OG.ow (OG.iconst C d8_4 (z := (0 : Int32)) rfl (pc' := 5) rfl) ?_
  refine OG.ow (OG.iloadN C d8_5 rfl (pc' := 6) rfl) ?_
  refine OG.ow (OG.i2b C d8_6 (pc' := 7) rfl) ?_
  refine OW.bastore C (show OA Z h2 a1 .byte [(.int (0 : Int32))] from Aa1) (own_ib (n := 1) rfl (by decide)) (Nat.le_trans Z0 (Nat.le_of_eq ga1)) d8_7 (pc' := 8) rfl ?_
  intro h3 Wh3
  have G4 : OA Z h3 a1 .byte [(.int (nar .byte x0.toInt8.toInt32))] := OA.same (show OA Z h2 a1 .byte [(.int (0 : Int32))] from Aa1) Wh3
  refine OW.retA C rfl rfl d8_8 (by decide) (by decide) ?_
  exact ⟨_, rfl, (Nat.le_of_eq ga1), (((Keep.refl h []).ext Eh2).wr Wh3 (Or.inr (Nat.le_trans (Nat.le_refl _) (Nat.le_of_eq ga1))))⟩
theorem d9_0 : decode jdk_42_method_151_code 0 = .ok (.aload_n 0, 1) := by decide +kernel
theorem d9_1 : decode jdk_42_method_151_code 1 = .ok (.invokespecial 1, 3) := by decide +kernel
theorem d9_4 : decode jdk_42_method_151_code 4 = .ok (.aload_n 0, 1) := by decide +kernel
theorem d9_5 : decode jdk_42_method_151_code 5 = .ok (.aload_n 1, 1) := by decide +kernel
theorem d9_6 : decode jdk_42_method_151_code 6 = .ok (.putfield 9, 3) := by decide +kernel
theorem d9_9 : decode jdk_42_method_151_code 9 = .ok (.aload_n 0, 1) := by decide +kernel
theorem d9_10 : decode jdk_42_method_151_code 10 = .ok (.iload_n 2, 1) := by decide +kernel
theorem d9_11 : decode jdk_42_method_151_code 11 = .ok (.putfield 15, 3) := by decide +kernel
theorem d9_14 : decode jdk_42_method_151_code 14 = .ok (.return_, 1) := by decide +kernel
set_option maxRecDepth 65536 in
set_option maxHeartbeats 40000000 in
theorem b9 {l : Launch} {Z : State} {a0 : Array Value} (hw : HW a0 Z) (x0 : Addr) (x1 : Addr) (x2 : Int32) {n0 : Nat} {h : Heap} (Z0 : n0 ≤ h.size) (g0 : n0 ≤ x0) (E0 : Exa Z h x0 "java/lang/String") (F0 : Fld Z h x0 "java/lang/String" "value" "[B" .null) (F1 : Fld Z h x0 "java/lang/String" "coder" "B" (.int (0 : Int32))) (hx2 : x2 = (0 : Int32)) : OM l Z (⟨"java/lang/String", "<init>", "([BB)V"⟩ : MethodName) jdk_42_method_151_code 3 none ⟨1, 0, 0, 12⟩ n0 h #[(.ref x0), (.ref x1), (.int x2)] (fun v h' => v = none ∧ Keep h h' [x0]) 0 0 := by
  refine OM.of_body (ls := #[.val (.ref x0), .val (.ref x1), .val (.int x2)]) (plainFor_of_name pn_1) (fun m => by first | (simp [entryFrame, mkF, argsToLocals, Value.category]; done) | rfl) ?_
  intro p e s m below meth c C
  refine OG.ow (OG.aloadN C d9_0 rfl rfl (pc' := 1) rfl) ?_
  refine OG.ow (OG.initO C (w59 hw) (w8 hw) (w9 hw) d9_1 rfl (by decide) (W := 0) rfl (by decide) (pc' := 4) rfl) ?_
  refine OG.ow (OG.aloadN C d9_4 rfl rfl (pc' := 5) rfl) ?_
  refine OG.ow (OG.aloadN C d9_5 rfl rfl (pc' := 6) rfl) ?_
  refine OW.putF C (host := "") (Or.inl (w60 hw)) Via.refl F0 E0 (Or.inr ⟨(w24 hw), rfl, rfl⟩) (w22 hw) (ty := (.array .byte)) (by decide) rfl rfl g0 d9_6 (pc' := 9) rfl ?_
  intro h1 Wh1
  have G2 := Fld.same Wh1 F0
  refine OG.ow (OG.aloadN C d9_9 rfl rfl (pc' := 10) rfl) ?_
  refine OG.ow (OG.iloadN C d9_10 rfl (pc' := 11) rfl) ?_
  have G3 := (Fld.other Wh1 F1 (Or.inr (slot_ne (Or.inr (w25 hw)) (Or.inr (w24 hw)) (by decide) (t := .byte) (t' := (.array .byte)) (by decide) (by decide))))
  have G4 := (Exa.wr Wh1 E0)
  refine OW.putF C (host := "") (Or.inl (w61 hw)) Via.refl G3 G4 (Or.inr ⟨(w25 hw), rfl, rfl⟩) (w22 hw) (ty := .byte) (by decide) (by subst hx2; rfl) (by subst hx2; rfl) g0 d9_11 (pc' := 14) rfl ?_
  intro h5 Wh5
  have G6 := Fld.same Wh5 G3
  refine OW.retV C d9_14 (by decide) (by decide) ?_
  exact ⟨rfl, (((Keep.refl h [x0]).wr Wh1 (Or.inl (List.mem_of_getElem? (i := 0) rfl))).wr Wh5 (Or.inl (List.mem_of_getElem? (i := 0) rfl)))⟩
theorem own_can (x : Int32) (h1 : ¬ (255 : Int32) < x) : ¬ (nar .boolean (F7 x)) = (0 : Int32) := by
  unfold F7
  first | (rw [if_neg h1]; decide) | (simp only [h1, if_false]; decide)
theorem d6_0 : decode jdk_42_method_139_code 0 = .ok (.getstatic 38, 3) := by decide +kernel
theorem d6_3 : decode jdk_42_method_139_code 3 = .ok (.ifCond .eq 23, 3) := by decide +kernel
theorem d6_6 : decode jdk_42_method_139_code 6 = .ok (.iload_n 0, 1) := by decide +kernel
theorem d6_7 : decode jdk_42_method_139_code 7 = .ok (.invokestatic 1015, 3) := by decide +kernel
theorem d6_10 : decode jdk_42_method_139_code 10 = .ok (.ifCond .eq 16, 3) := by decide +kernel
theorem d6_13 : decode jdk_42_method_139_code 13 = .ok (.new 10, 3) := by decide +kernel
theorem d6_16 : decode jdk_42_method_139_code 16 = .ok (.dup, 1) := by decide +kernel
theorem d6_17 : decode jdk_42_method_139_code 17 = .ok (.iload_n 0, 1) := by decide +kernel
theorem d6_18 : decode jdk_42_method_139_code 18 = .ok (.invokestatic 1018, 3) := by decide +kernel
theorem d6_21 : decode jdk_42_method_139_code 21 = .ok (.iconst 0, 1) := by decide +kernel
theorem d6_22 : decode jdk_42_method_139_code 22 = .ok (.invokespecial 209, 3) := by decide +kernel
theorem d6_25 : decode jdk_42_method_139_code 25 = .ok (.areturn, 1) := by decide +kernel
theorem d6_26 : decode jdk_42_method_139_code 26 = .ok (.new 10, 3) := by decide +kernel
theorem d6_29 : decode jdk_42_method_139_code 29 = .ok (.dup, 1) := by decide +kernel
theorem d6_30 : decode jdk_42_method_139_code 30 = .ok (.iload_n 0, 1) := by decide +kernel
theorem d6_31 : decode jdk_42_method_139_code 31 = .ok (.invokestatic 1021, 3) := by decide +kernel
theorem d6_34 : decode jdk_42_method_139_code 34 = .ok (.iconst 1, 1) := by decide +kernel
theorem d6_35 : decode jdk_42_method_139_code 35 = .ok (.invokespecial 209, 3) := by decide +kernel
theorem d6_38 : decode jdk_42_method_139_code 38 = .ok (.areturn, 1) := by decide +kernel
set_option maxRecDepth 65536 in
set_option maxHeartbeats 40000000 in
theorem b6 {l : Launch} {Z : State} {a0 : Array Value} (hw : HW a0 Z) (x0 : Int32) {cs : Int32} {n0 : Nat} {h : Heap} (Z0 : n0 ≤ h.size) (S0 : Sta Z h "java/lang/String" "COMPACT_STRINGS" "Z" (.int cs)) (hcs : ¬ cs = (0 : Int32)) (hx0 : ¬ (255 : Int32) < x0) : OM l Z (⟨"java/lang/String", "valueOf", "(C)Ljava/lang/String;"⟩ : MethodName) jdk_42_method_139_code 1 (some (.object "java/lang/String")) ⟨2, 2, 5, 27⟩ n0 h #[(.int x0)] (fun v h' => ∃ a : Addr, v = some (.ref a) ∧ h.size ≤ a ∧ Keep h h' [] ∧ Exa Z h' a "java/lang/String") 2 5 := by
  refine OM.of_body (ls := #[.val (.int x0)]) (plainFor_of_name pn_1) (fun m => by first | (simp [entryFrame, mkF, argsToLocals, Value.category]; done) | rfl) ?_
  intro p e s m below meth c C
  refine OG.ow (OG.getS C (host := "") (Or.inl (w46 hw)) Via.refl S0 d6_0 (pc' := 3) rfl) ?_
  refine OG.ow (OG.ifNo C d6_3 ((if0 _ _).trans (feq hcs).1) (pc' := 6) rfl) ?_
  refine OG.ow (OG.iloadN C d6_6 rfl (pc' := 7) rfl) ?_
  refine OG.ow (OG.callS C (w47 hw) (w48 hw) (w49 hw) (w50 hw) (by decide) (b7 hw x0) d6_7 pd_0 rfl (argsL := [(.int x0)]) (rest := []) rfl rfl (W := 0) rfl (by decide) (by decide) (pc' := 10) rfl) ?_
  refine OG.ow (OG.ifNo C d6_10 ((if0 _ _).trans (feq (own_can x0 hx0)).1) (pc' := 13) rfl) ?_
  refine OW.newO C (w51 hw) (w22 hw) (w21 hw) d6_13 (by decide) (by decide) (pc' := 16) rfl ?_
  intro a1 h2 ga1 Eh2 Aa1 Da1
  refine OG.ow (OG.dup C d6_16 rfl (pc' := 17) rfl) ?_
  refine OG.ow (OG.iloadN C d6_17 rfl (pc' := 18) rfl) ?_
  refine OW.callS C (w52 hw) (w53 hw) (w49 hw) (w54 hw) (by decide) (b8 hw x0 (Nat.le_trans Z0 Eh2.1)) d6_18 pd_1 rfl (argsL := [(.int x0)]) (rest := [(.ref a1), (.ref a1)]) rfl rfl (W := 2) rfl (by decide) (by decide) (by decide) (by decide) (pc' := 21) rfl ?_
  intro vh3 h3 qh3
  obtain ⟨a4, rfl, ga4, Kh3⟩ := qh3
  refine OG.ow (OG.iconst C d6_21 (z := (0 : Int32)) rfl (pc' := 22) rfl) ?_
  have G5 := (Aa1.keep Kh3)
  have G6 := ((show Fld Z h2 a1 "java/lang/String" "value" "[B" .null from Da1 (Or.inr (w24 hw)) (ty := (.array .byte)) (by decide)).keep Kh3 nin0)
  have G7 := ((show Fld Z h2 a1 "java/lang/String" "coder" "B" (.int (0 : Int32)) from Da1 (Or.inr (w25 hw)) (ty := .byte) (by decide)).keep Kh3 nin0)
  refine OW.init C (w55 hw) (w56 hw) (w21 hw) (w58 hw) rfl (by decide) (b9 hw a1 a4 (0 : Int32) (Nat.le_trans (Nat.le_trans Z0 Eh2.1) Kh3.1) (Nat.le_trans Z0 (Nat.le_of_eq ga1)) G5 G6 G7 rfl) d6_22 pd_2 rfl (argsL := [(.ref a4), (.int (0 : Int32))]) (rest := [(.ref a1)]) rfl rfl (W := 1) rfl (by decide) (by decide) (by decide) (by decide) (pc' := 25) rfl ?_
  intro vh8 h8 qh8
  obtain ⟨rfl, Kh8⟩ := qh8
  refine OW.retA C rfl rfl d6_25 (by decide) (by decide) ?_
  have G9 := (G5.keep Kh8)
  exact ⟨_, rfl, (Nat.le_trans (Nat.le_refl _) (Nat.le_of_eq ga1)), ((((Keep.refl h []).ext Eh2).trans Kh3 all0).trans Kh8 (allS (Or.inr (Nat.le_trans (Nat.le_refl _) (Nat.le_of_eq ga1))) all0)), G9⟩
theorem d5_0 : decode prog_43_method_8_code 0 = .ok (.aload_n 0, 1) := by decide +kernel
theorem d5_1 : decode prog_43_method_8_code 1 = .ok (.aload_n 1, 1) := by decide +kernel
theorem d5_2 : decode prog_43_method_8_code 2 = .ok (.putfield 13, 3) := by decide +kernel
theorem d5_5 : decode prog_43_method_8_code 5 = .ok (.aload_n 0, 1) := by decide +kernel
theorem d5_6 : decode prog_43_method_8_code 6 = .ok (.iload_n 2, 1) := by decide +kernel
theorem d5_7 : decode prog_43_method_8_code 7 = .ok (.putfield 17, 3) := by decide +kernel
theorem d5_10 : decode prog_43_method_8_code 10 = .ok (.aload_n 0, 1) := by decide +kernel
theorem d5_11 : decode prog_43_method_8_code 11 = .ok (.aconst_null, 1) := by decide +kernel
theorem d5_12 : decode prog_43_method_8_code 12 = .ok (.putfield 29, 3) := by decide +kernel
theorem d5_15 : decode prog_43_method_8_code 15 = .ok (.aload_n 0, 1) := by decide +kernel
theorem d5_16 : decode prog_43_method_8_code 16 = .ok (.aconst_null, 1) := by decide +kernel
theorem d5_17 : decode prog_43_method_8_code 17 = .ok (.putfield 25, 3) := by decide +kernel
theorem d5_20 : decode prog_43_method_8_code 20 = .ok (.aload_n 0, 1) := by decide +kernel
theorem d5_21 : decode prog_43_method_8_code 21 = .ok (.iconst (-1), 1) := by decide +kernel
theorem d5_22 : decode prog_43_method_8_code 22 = .ok (.putfield 33, 3) := by decide +kernel
theorem d5_25 : decode prog_43_method_8_code 25 = .ok (.return_, 1) := by decide +kernel
set_option maxRecDepth 65536 in
set_option maxHeartbeats 40000000 in
theorem b5 {l : Launch} {Z : State} {a0 : Array Value} (hw : HW a0 Z) (x0 : Addr) (x1 : Value) (rx1 : x1.isRef = true) (x2 : Int32) {tg st sv br : Value} {oc on : Int32} {n0 : Nat} {h : Heap} (Z0 : n0 ≤ h.size) (g0 : n0 ≤ x0) (H0 : HLS Z h x0 tg oc st sv br on) : OM l Z (⟨"com/example/kartoteka/kartoteka/format/HeadingLink", "heading", "(Ljava/lang/String;I)V"⟩ : MethodName) prog_43_method_8_code 3 none ⟨0, 0, 0, 0⟩ n0 h #[(.ref x0), x1, (.int x2)] (fun v h' => v = none ∧ Keep h h' [x0] ∧ HLS Z h' x0 x1 x2 st .null .null (-1 : Int32)) 0 0 := by
  refine OM.of_body (ls := #[.val (.ref x0), .val x1, .val (.int x2)]) (plainFor_of_name pn_2) (fun m => by rcases ref_cases rx1 with rfl | ⟨_, rfl⟩ <;> first | (simp [entryFrame, mkF, argsToLocals, Value.category]; done) | rfl) ?_
  intro p e s m below meth c C
  obtain ⟨E0, Ft, Fo, Fs, Fv, Fb, F1⟩ := H0
  refine OG.ow (OG.aloadN C d5_0 rfl rfl (pc' := 1) rfl) ?_
  refine OG.ow (OG.aloadN C d5_1 rfl rx1 (pc' := 2) rfl) ?_
  refine OW.putF C (host := "") (Or.inl (w33 hw)) Via.refl Ft E0 (Or.inl (w34 hw)) (w2 hw) (ty := (.object "java/lang/String")) (by decide) (own_nr rx1 rfl).1 (own_nr rx1 rfl).2 g0 d5_2 (pc' := 5) rfl ?_
  intro h1 Wh1
  have G2 := Fld.same Wh1 Ft
  refine OG.ow (OG.aloadN C d5_5 rfl rfl (pc' := 6) rfl) ?_
  refine OG.ow (OG.iloadN C d5_6 rfl (pc' := 7) rfl) ?_
  have G3 := (Fld.other Wh1 Fo (Or.inr (slot_ne (Or.inl (w36 hw)) (Or.inl (w34 hw)) (by decide) (t := .int) (t' := (.object "java/lang/String")) (by decide) (by decide))))
  have G4 := (Exa.wr Wh1 E0)
  refine OW.putF C (host := "") (Or.inl (w35 hw)) Via.refl G3 G4 (Or.inl (w36 hw)) (w2 hw) (ty := .int) (by decide) rfl rfl g0 d5_7 (pc' := 10) rfl ?_
  intro h5 Wh5
  have G6 := Fld.same Wh5 G3
  refine OG.ow (OG.aloadN C d5_10 rfl rfl (pc' := 11) rfl) ?_
  refine OG.ow (OG.aconst_null C d5_11 (pc' := 12) rfl) ?_
  have G7 := (Fld.other Wh5 (Fld.other Wh1 Fb (Or.inr (slot_ne (Or.inl (w38 hw)) (Or.inl (w34 hw)) (by decide) (t := (.object "java/lang/CharSequence")) (t' := (.object "java/lang/String")) (by decide) (by decide)))) (Or.inr (slot_ne (Or.inl (w38 hw)) (Or.inl (w36 hw)) (by decide) (t := (.object "java/lang/CharSequence")) (t' := .int) (by decide) (by decide))))
  have G8 := (Exa.wr Wh5 G4)
  refine OW.putF C (host := "") (Or.inl (w37 hw)) Via.refl G7 G8 (Or.inl (w38 hw)) (w2 hw) (ty := (.object "java/lang/CharSequence")) (by decide) rfl rfl g0 d5_12 (pc' := 15) rfl ?_
  intro h9 Wh9
  have G10 := Fld.same Wh9 G7
  refine OG.ow (OG.aloadN C d5_15 rfl rfl (pc' := 16) rfl) ?_
  refine OG.ow (OG.aconst_null C d5_16 (pc' := 17) rfl) ?_
  have G11 := (Fld.other Wh9 (Fld.other Wh5 (Fld.other Wh1 Fv (Or.inr (slot_ne (Or.inl (w40 hw)) (Or.inl (w34 hw)) (by decide) (t := (.array .int)) (t' := (.object "java/lang/String")) (by decide) (by decide)))) (Or.inr (slot_ne (Or.inl (w40 hw)) (Or.inl (w36 hw)) (by decide) (t := (.array .int)) (t' := .int) (by decide) (by decide)))) (Or.inr (slot_ne (Or.inl (w40 hw)) (Or.inl (w38 hw)) (by decide) (t := (.array .int)) (t' := (.object "java/lang/CharSequence")) (by decide) (by decide))))
  have G12 := (Exa.wr Wh9 G8)
  refine OW.putF C (host := "") (Or.inl (w39 hw)) Via.refl G11 G12 (Or.inl (w40 hw)) (w2 hw) (ty := (.array .int)) (by decide) rfl rfl g0 d5_17 (pc' := 20) rfl ?_
  intro h13 Wh13
  have G14 := Fld.same Wh13 G11
  refine OG.ow (OG.aloadN C d5_20 rfl rfl (pc' := 21) rfl) ?_
  refine OG.ow (OG.iconst C d5_21 (z := (-1 : Int32)) rfl (pc' := 22) rfl) ?_
  have G15 := (Fld.other Wh13 (Fld.other Wh9 (Fld.other Wh5 (Fld.other Wh1 F1 (Or.inr (slot_ne (Or.inl (w42 hw)) (Or.inl (w34 hw)) (by decide) (t := .int) (t' := (.object "java/lang/String")) (by decide) (by decide)))) (Or.inr (slot_ne (Or.inl (w42 hw)) (Or.inl (w36 hw)) (by decide) (t := .int) (t' := .int) (by decide) (by decide)))) (Or.inr (slot_ne (Or.inl (w42 hw)) (Or.inl (w38 hw)) (by decide) (t := .int) (t' := (.object "java/lang/CharSequence")) (by decide) (by decide)))) (Or.inr (slot_ne (Or.inl (w42 hw)) (Or.inl (w40 hw)) (by decide) (t := .int) (t' := (.array .int)) (by decide) (by decide))))
  have G16 := (Exa.wr Wh13 G12)
  refine OW.putF C (host := "") (Or.inl (w41 hw)) Via.refl G15 G16 (Or.inl (w42 hw)) (w2 hw) (ty := .int) (by decide) rfl rfl g0 d5_22 (pc' := 25) rfl ?_
  intro h17 Wh17
  have G18 := Fld.same Wh17 G15
  refine OW.retV C d5_25 (by decide) (by decide) ?_
  have G19 := (Exa.wr Wh17 G16)
  have G20 := (Fld.other Wh17 (Fld.other Wh13 (Fld.other Wh9 (Fld.other Wh5 G2 (Or.inr (slot_ne (Or.inl (w34 hw)) (Or.inl (w36 hw)) (by decide) (t := (.object "java/lang/String")) (t' := .int) (by decide) (by decide)))) (Or.inr (slot_ne (Or.inl (w34 hw)) (Or.inl (w38 hw)) (by decide) (t := (.object "java/lang/String")) (t' := (.object "java/lang/CharSequence")) (by decide) (by decide)))) (Or.inr (slot_ne (Or.inl (w34 hw)) (Or.inl (w40 hw)) (by decide) (t := (.object "java/lang/String")) (t' := (.array .int)) (by decide) (by decide)))) (Or.inr (slot_ne (Or.inl (w34 hw)) (Or.inl (w42 hw)) (by decide) (t := (.object "java/lang/String")) (t' := .int) (by decide) (by decide))))
  have G21 := (Fld.other Wh17 (Fld.other Wh13 (Fld.other Wh9 G6 (Or.inr (slot_ne (Or.inl (w36 hw)) (Or.inl (w38 hw)) (by decide) (t := .int) (t' := (.object "java/lang/CharSequence")) (by decide) (by decide)))) (Or.inr (slot_ne (Or.inl (w36 hw)) (Or.inl (w40 hw)) (by decide) (t := .int) (t' := (.array .int)) (by decide) (by decide)))) (Or.inr (slot_ne (Or.inl (w36 hw)) (Or.inl (w42 hw)) (by decide) (t := .int) (t' := .int) (by decide) (by decide))))
  have G22 := (Fld.other Wh17 (Fld.other Wh13 (Fld.other Wh9 (Fld.other Wh5 (Fld.other Wh1 Fs (Or.inr (slot_ne (Or.inl (w71 hw)) (Or.inl (w34 hw)) (by decide) (t := (.object "com/example/kartoteka/kartoteka/format/LinkStatus")) (t' := (.object "java/lang/String")) (by decide) (by decide)))) (Or.inr (slot_ne (Or.inl (w71 hw)) (Or.inl (w36 hw)) (by decide) (t := (.object "com/example/kartoteka/kartoteka/format/LinkStatus")) (t' := .int) (by decide) (by decide)))) (Or.inr (slot_ne (Or.inl (w71 hw)) (Or.inl (w38 hw)) (by decide) (t := (.object "com/example/kartoteka/kartoteka/format/LinkStatus")) (t' := (.object "java/lang/CharSequence")) (by decide) (by decide)))) (Or.inr (slot_ne (Or.inl (w71 hw)) (Or.inl (w40 hw)) (by decide) (t := (.object "com/example/kartoteka/kartoteka/format/LinkStatus")) (t' := (.array .int)) (by decide) (by decide)))) (Or.inr (slot_ne (Or.inl (w71 hw)) (Or.inl (w42 hw)) (by decide) (t := (.object "com/example/kartoteka/kartoteka/format/LinkStatus")) (t' := .int) (by decide) (by decide))))
  have G23 := (Fld.other Wh17 G14 (Or.inr (slot_ne (Or.inl (w40 hw)) (Or.inl (w42 hw)) (by decide) (t := (.array .int)) (t' := .int) (by decide) (by decide))))
  have G24 := (Fld.other Wh17 (Fld.other Wh13 G10 (Or.inr (slot_ne (Or.inl (w38 hw)) (Or.inl (w40 hw)) (by decide) (t := (.object "java/lang/CharSequence")) (t' := (.array .int)) (by decide) (by decide)))) (Or.inr (slot_ne (Or.inl (w38 hw)) (Or.inl (w42 hw)) (by decide) (t := (.object "java/lang/CharSequence")) (t' := .int) (by decide) (by decide))))
  exact ⟨rfl, ((((((Keep.refl h [x0]).wr Wh1 (Or.inl (List.mem_of_getElem? (i := 0) rfl))).wr Wh5 (Or.inl (List.mem_of_getElem? (i := 0) rfl))).wr Wh9 (Or.inl (List.mem_of_getElem? (i := 0) rfl))).wr Wh13 (Or.inl (List.mem_of_getElem? (i := 0) rfl))).wr Wh17 (Or.inl (List.mem_of_getElem? (i := 0) rfl))), ⟨G19, G20, G21, G22, G23, G24, G18⟩⟩
theorem d10_0 : decode prog_43_method_9_code 0 = .ok (.aload_n 0, 1) := by decide +kernel
theorem d10_1 : decode prog_43_method_9_code 1 = .ok (.getstatic 52, 3) := by decide +kernel
theorem d10_4 : decode prog_43_method_9_code 4 = .ok (.putfield 21, 3) := by decide +kernel
theorem d10_7 : decode prog_43_method_9_code 7 = .ok (.aload_n 0, 1) := by decide +kernel
theorem d10_8 : decode prog_43_method_9_code 8 = .ok (.aload_n 1, 1) := by decide +kernel
theorem d10_9 : decode prog_43_method_9_code 9 = .ok (.putfield 29, 3) := by decide +kernel
theorem d10_12 : decode prog_43_method_9_code 12 = .ok (.return_, 1) := by decide +kernel
set_option maxRecDepth 65536 in
set_option maxHeartbeats 40000000 in
theorem b10 {l : Launch} {Z : State} {a0 : Array Value} (hw : HW a0 Z) (x0 : Addr) (x1 : Value) (rx1 : x1.isRef = true) {tg st sv br : Value} {oc on : Int32} {s_LINK_BROKEN : Addr} {n0 : Nat} {h : Heap} (Z0 : n0 ≤ h.size) (g0 : n0 ≤ x0) (S_LINK_BROKEN : Sta Z h "com/example/kartoteka/kartoteka/format/LinkStatus" "LINK_BROKEN" "Lcom/example/kartoteka/kartoteka/format/LinkStatus;" (.ref s_LINK_BROKEN)) (H0 : HLS Z h x0 tg oc st sv br on) : OM l Z (⟨"com/example/kartoteka/kartoteka/format/HeadingLink", "broken", "(Ljava/lang/CharSequence;)V"⟩ : MethodName) prog_43_method_9_code 2 none ⟨0, 0, 0, 0⟩ n0 h #[(.ref x0), x1] (fun v h' => v = none ∧ Keep h h' [x0] ∧ HLS Z h' x0 tg oc (.ref s_LINK_BROKEN) sv x1 on) 0 0 := by
  refine OM.of_body (ls := #[.val (.ref x0), .val x1]) (plainFor_of_name pn_2) (fun m => by rcases ref_cases rx1 with rfl | ⟨_, rfl⟩ <;> first | (simp [entryFrame, mkF, argsToLocals, Value.category]; done) | rfl) ?_
  intro p e s m below meth c C
  obtain ⟨E0, Ft, Fo, Fs, Fv, Fb, F1⟩ := H0
  refine OG.ow (OG.aloadN C d10_0 rfl rfl (pc' := 1) rfl) ?_
  refine OG.ow (OG.getS C (host := "") (Or.inl (w67 hw)) Via.refl S_LINK_BROKEN d10_1 (pc' := 4) rfl) ?_
  refine OW.putF C (host := "") (Or.inl (w70 hw)) Via.refl Fs E0 (Or.inl (w71 hw)) (w2 hw) (ty := (.object "com/example/kartoteka/kartoteka/format/LinkStatus")) (by decide) rfl rfl g0 d10_4 (pc' := 7) rfl ?_
  intro h1 Wh1
  have G2 := Fld.same Wh1 Fs
  refine OG.ow (OG.aloadN C d10_7 rfl rfl (pc' := 8) rfl) ?_
  refine OG.ow (OG.aloadN C d10_8 rfl rx1 (pc' := 9) rfl) ?_
  have G3 := (Fld.other Wh1 Fb (Or.inr (slot_ne (Or.inl (w38 hw)) (Or.inl (w71 hw)) (by decide) (t := (.object "java/lang/CharSequence")) (t' := (.object "com/example/kartoteka/kartoteka/format/LinkStatus")) (by decide) (by decide))))
  have G4 := (Exa.wr Wh1 E0)
  refine OW.putF C (host := "") (Or.inl (w37 hw)) Via.refl G3 G4 (Or.inl (w38 hw)) (w2 hw) (ty := (.object "java/lang/CharSequence")) (by decide) (own_nr rx1 rfl).1 (own_nr rx1 rfl).2 g0 d10_9 (pc' := 12) rfl ?_
  intro h5 Wh5
  have G6 := Fld.same Wh5 G3
  refine OW.retV C d10_12 (by decide) (by decide) ?_
  have G7 := (Exa.wr Wh5 G4)
  have G8 := (Fld.other Wh5 (Fld.other Wh1 Ft (Or.inr (slot_ne (Or.inl (w34 hw)) (Or.inl (w71 hw)) (by decide) (t := (.object "java/lang/String")) (t' := (.object "com/example/kartoteka/kartoteka/format/LinkStatus")) (by decide) (by decide)))) (Or.inr (slot_ne (Or.inl (w34 hw)) (Or.inl (w38 hw)) (by decide) (t := (.object "java/lang/String")) (t' := (.object "java/lang/CharSequence")) (by decide) (by decide))))
  have G9 := (Fld.other Wh5 (Fld.other Wh1 Fo (Or.inr (slot_ne (Or.inl (w36 hw)) (Or.inl (w71 hw)) (by decide) (t := .int) (t' := (.object "com/example/kartoteka/kartoteka/format/LinkStatus")) (by decide) (by decide)))) (Or.inr (slot_ne (Or.inl (w36 hw)) (Or.inl (w38 hw)) (by decide) (t := .int) (t' := (.object "java/lang/CharSequence")) (by decide) (by decide))))
  have G10 := (Fld.other Wh5 G2 (Or.inr (slot_ne (Or.inl (w71 hw)) (Or.inl (w38 hw)) (by decide) (t := (.object "com/example/kartoteka/kartoteka/format/LinkStatus")) (t' := (.object "java/lang/CharSequence")) (by decide) (by decide))))
  have G11 := (Fld.other Wh5 (Fld.other Wh1 Fv (Or.inr (slot_ne (Or.inl (w40 hw)) (Or.inl (w71 hw)) (by decide) (t := (.array .int)) (t' := (.object "com/example/kartoteka/kartoteka/format/LinkStatus")) (by decide) (by decide)))) (Or.inr (slot_ne (Or.inl (w40 hw)) (Or.inl (w38 hw)) (by decide) (t := (.array .int)) (t' := (.object "java/lang/CharSequence")) (by decide) (by decide))))
  have G12 := (Fld.other Wh5 (Fld.other Wh1 F1 (Or.inr (slot_ne (Or.inl (w42 hw)) (Or.inl (w71 hw)) (by decide) (t := .int) (t' := (.object "com/example/kartoteka/kartoteka/format/LinkStatus")) (by decide) (by decide)))) (Or.inr (slot_ne (Or.inl (w42 hw)) (Or.inl (w38 hw)) (by decide) (t := .int) (t' := (.object "java/lang/CharSequence")) (by decide) (by decide))))
  exact ⟨rfl, (((Keep.refl h [x0]).wr Wh1 (Or.inl (List.mem_of_getElem? (i := 0) rfl))).wr Wh5 (Or.inl (List.mem_of_getElem? (i := 0) rfl))), ⟨G7, G8, G9, G10, G11, G6, G12⟩⟩
theorem d12_0 : decode prog_43_method_12_code 0 = .ok (.aload_n 0, 1) := by decide +kernel
theorem d12_1 : decode prog_43_method_12_code 1 = .ok (.getstatic 64, 3) := by decide +kernel
theorem d12_4 : decode prog_43_method_12_code 4 = .ok (.putfield 21, 3) := by decide +kernel
theorem d12_7 : decode prog_43_method_12_code 7 = .ok (.return_, 1) := by decide +kernel
set_option maxRecDepth 65536 in
set_option maxHeartbeats 40000000 in
theorem b12 {l : Launch} {Z : State} {a0 : Array Value} (hw : HW a0 Z) (x0 : Addr) {tg st sv br : Value} {oc on : Int32} {s_UNKNOWN : Addr} {n0 : Nat} {h : Heap} (Z0 : n0 ≤ h.size) (g0 : n0 ≤ x0) (S_UNKNOWN : Sta Z h "com/example/kartoteka/kartoteka/format/LinkStatus" "UNKNOWN" "Lcom/example/kartoteka/kartoteka/format/LinkStatus;" (.ref s_UNKNOWN)) (H0 : HLS Z h x0 tg oc st sv br on) : OM l Z (⟨"com/example/kartoteka/kartoteka/format/HeadingLink", "unknown", "()V"⟩ : MethodName) prog_43_method_12_code 1 none ⟨0, 0, 0, 0⟩ n0 h #[(.ref x0)] (fun v h' => v = none ∧ Keep h h' [x0] ∧ HLS Z h' x0 tg oc (.ref s_UNKNOWN) sv br on) 0 0 := by
  refine OM.of_body (ls := #[.val (.ref x0)]) (plainFor_of_name pn_2) (fun m => by first | (simp [entryFrame, mkF, argsToLocals, Value.category]; done) | rfl) ?_
  intro p e s m below meth c C
  obtain ⟨E0, Ft, Fo, Fs, Fv, Fb, F1⟩ := H0
  refine OG.ow (OG.aloadN C d12_0 rfl rfl (pc' := 1) rfl) ?_
  refine OG.ow (OG.getS C (host := "") (Or.inl (w82 hw)) Via.refl S_UNKNOWN d12_1 (pc' := 4) rfl) ?_
  refine OW.putF C (host := "") (Or.inl (w70 hw)) Via.refl Fs E0 (Or.inl (w71 hw)) (w2 hw) (ty := (.object "com/example/kartoteka/kartoteka/format/LinkStatus")) (by decide) rfl rfl g0 d12_4 (pc' := 7) rfl ?_
  intro h1 Wh1
  have G2 := Fld.same Wh1 Fs
  refine OW.retV C d12_7 (by decide) (by decide) ?_
  have G3 := (Exa.wr Wh1 E0)
  have G4 := (Fld.other Wh1 Ft (Or.inr (slot_ne (Or.inl (w34 hw)) (Or.inl (w71 hw)) (by decide) (t := (.object "java/lang/String")) (t' := (.object "com/example/kartoteka/kartoteka/format/LinkStatus")) (by decide) (by decide))))
  have G5 := (Fld.other Wh1 Fo (Or.inr (slot_ne (Or.inl (w36 hw)) (Or.inl (w71 hw)) (by decide) (t := .int) (t' := (.object "com/example/kartoteka/kartoteka/format/LinkStatus")) (by decide) (by decide))))
  have G6 := (Fld.other Wh1 Fv (Or.inr (slot_ne (Or.inl (w40 hw)) (Or.inl (w71 hw)) (by decide) (t := (.array .int)) (t' := (.object "com/example/kartoteka/kartoteka/format/LinkStatus")) (by decide) (by decide))))
  have G7 := (Fld.other Wh1 Fb (Or.inr (slot_ne (Or.inl (w38 hw)) (Or.inl (w71 hw)) (by decide) (t := (.object "java/lang/CharSequence")) (t' := (.object "com/example/kartoteka/kartoteka/format/LinkStatus")) (by decide) (by decide))))
  have G8 := (Fld.other Wh1 F1 (Or.inr (slot_ne (Or.inl (w42 hw)) (Or.inl (w71 hw)) (by decide) (t := .int) (t' := (.object "com/example/kartoteka/kartoteka/format/LinkStatus")) (by decide) (by decide))))
  exact ⟨rfl, ((Keep.refl h [x0]).wr Wh1 (Or.inl (List.mem_of_getElem? (i := 0) rfl))), ⟨G3, G4, G5, G2, G6, G7, G8⟩⟩
theorem d14_0 : decode prog_43_method_10_code 0 = .ok (.aload_n 0, 1) := by decide +kernel
theorem d14_1 : decode prog_43_method_10_code 1 = .ok (.aload_n 1, 1) := by decide +kernel
theorem d14_2 : decode prog_43_method_10_code 2 = .ok (.putfield 21, 3) := by decide +kernel
theorem d14_5 : decode prog_43_method_10_code 5 = .ok (.aload_n 0, 1) := by decide +kernel
theorem d14_6 : decode prog_43_method_10_code 6 = .ok (.iload_n 2, 1) := by decide +kernel
theorem d14_7 : decode prog_43_method_10_code 7 = .ok (.putfield 33, 3) := by decide +kernel
theorem d14_10 : decode prog_43_method_10_code 10 = .ok (.return_, 1) := by decide +kernel
set_option maxRecDepth 65536 in
set_option maxHeartbeats 40000000 in
theorem b14 {l : Launch} {Z : State} {a0 : Array Value} (hw : HW a0 Z) (x0 : Addr) (x1 : Value) (rx1 : x1.isRef = true) (x2 : Int32) {tg st sv br : Value} {oc on : Int32} {n0 : Nat} {h : Heap} (Z0 : n0 ≤ h.size) (g0 : n0 ≤ x0) (H0 : HLS Z h x0 tg oc st sv br on) : OM l Z (⟨"com/example/kartoteka/kartoteka/format/HeadingLink", "found", "(Lcom/example/kartoteka/kartoteka/format/LinkStatus;I)V"⟩ : MethodName) prog_43_method_10_code 3 none ⟨0, 0, 0, 0⟩ n0 h #[(.ref x0), x1, (.int x2)] (fun v h' => v = none ∧ Keep h h' [x0] ∧ HLS Z h' x0 tg oc x1 sv br x2) 0 0 := by
  refine OM.of_body (ls := #[.val (.ref x0), .val x1, .val (.int x2)]) (plainFor_of_name pn_2) (fun m => by rcases ref_cases rx1 with rfl | ⟨_, rfl⟩ <;> first | (simp [entryFrame, mkF, argsToLocals, Value.category]; done) | rfl) ?_
  intro p e s m below meth c C
  obtain ⟨E0, Ft, Fo, Fs, Fv, Fb, F1⟩ := H0
  refine OG.ow (OG.aloadN C d14_0 rfl rfl (pc' := 1) rfl) ?_
  refine OG.ow (OG.aloadN C d14_1 rfl rx1 (pc' := 2) rfl) ?_
  refine OW.putF C (host := "") (Or.inl (w70 hw)) Via.refl Fs E0 (Or.inl (w71 hw)) (w2 hw) (ty := (.object "com/example/kartoteka/kartoteka/format/LinkStatus")) (by decide) (own_nr rx1 rfl).1 (own_nr rx1 rfl).2 g0 d14_2 (pc' := 5) rfl ?_
  intro h1 Wh1
  have G2 := Fld.same Wh1 Fs
  refine OG.ow (OG.aloadN C d14_5 rfl rfl (pc' := 6) rfl) ?_
  refine OG.ow (OG.iloadN C d14_6 rfl (pc' := 7) rfl) ?_
  have G3 := (Fld.other Wh1 F1 (Or.inr (slot_ne (Or.inl (w42 hw)) (Or.inl (w71 hw)) (by decide) (t := .int) (t' := (.object "com/example/kartoteka/kartoteka/format/LinkStatus")) (by decide) (by decide))))
  have G4 := (Exa.wr Wh1 E0)
  refine OW.putF C (host := "") (Or.inl (w41 hw)) Via.refl G3 G4 (Or.inl (w42 hw)) (w2 hw) (ty := .int) (by decide) rfl rfl g0 d14_7 (pc' := 10) rfl ?_
  intro h5 Wh5
  have G6 := Fld.same Wh5 G3
  refine OW.retV C d14_10 (by decide) (by decide) ?_
  have G7 := (Exa.wr Wh5 G4)
  have G8 := (Fld.other Wh5 (Fld.other Wh1 Ft (Or.inr (slot_ne (Or.inl (w34 hw)) (Or.inl (w71 hw)) (by decide) (t := (.object "java/lang/String")) (t' := (.object "com/example/kartoteka/kartoteka/format/LinkStatus")) (by decide) (by decide)))) (Or.inr (slot_ne (Or.inl (w34 hw)) (Or.inl (w42 hw)) (by decide) (t := (.object "java/lang/String")) (t' := .int) (by decide) (by decide))))
  have G9 := (Fld.other Wh5 (Fld.other Wh1 Fo (Or.inr (slot_ne (Or.inl (w36 hw)) (Or.inl (w71 hw)) (by decide) (t := .int) (t' := (.object "com/example/kartoteka/kartoteka/format/LinkStatus")) (by decide) (by decide)))) (Or.inr (slot_ne (Or.inl (w36 hw)) (Or.inl (w42 hw)) (by decide) (t := .int) (t' := .int) (by decide) (by decide))))
  have G10 := (Fld.other Wh5 G2 (Or.inr (slot_ne (Or.inl (w71 hw)) (Or.inl (w42 hw)) (by decide) (t := (.object "com/example/kartoteka/kartoteka/format/LinkStatus")) (t' := .int) (by decide) (by decide))))
  have G11 := (Fld.other Wh5 (Fld.other Wh1 Fv (Or.inr (slot_ne (Or.inl (w40 hw)) (Or.inl (w71 hw)) (by decide) (t := (.array .int)) (t' := (.object "com/example/kartoteka/kartoteka/format/LinkStatus")) (by decide) (by decide)))) (Or.inr (slot_ne (Or.inl (w40 hw)) (Or.inl (w42 hw)) (by decide) (t := (.array .int)) (t' := .int) (by decide) (by decide))))
  have G12 := (Fld.other Wh5 (Fld.other Wh1 Fb (Or.inr (slot_ne (Or.inl (w38 hw)) (Or.inl (w71 hw)) (by decide) (t := (.object "java/lang/CharSequence")) (t' := (.object "com/example/kartoteka/kartoteka/format/LinkStatus")) (by decide) (by decide)))) (Or.inr (slot_ne (Or.inl (w38 hw)) (Or.inl (w42 hw)) (by decide) (t := (.object "java/lang/CharSequence")) (t' := .int) (by decide) (by decide))))
  exact ⟨rfl, (((Keep.refl h [x0]).wr Wh1 (Or.inl (List.mem_of_getElem? (i := 0) rfl))).wr Wh5 (Or.inl (List.mem_of_getElem? (i := 0) rfl))), ⟨G7, G8, G9, G10, G11, G12, G6⟩⟩
theorem own_0 {vs : List Value} {v : Value} (ha : vs[0]? = some v) : 0 ≤ (0 : Int32).toInt ∧ (0 : Int32).toInt < vs.length := by
  have e : (0 : Int32).toInt = 0 := by decide
  cases vs with
  | nil => simp at ha
  | cons x xs => rw [e]; simp only [List.length_cons]; omega
theorem d13_0 : decode prog_43_method_11_code 0 = .ok (.aload_n 2, 1) := by decide +kernel
theorem d13_1 : decode prog_43_method_11_code 1 = .ok (.arraylength, 1) := by decide +kernel
theorem d13_2 : decode prog_43_method_11_code 2 = .ok (.iconst 1, 1) := by decide +kernel
theorem d13_3 : decode prog_43_method_11_code 3 = .ok (.if_icmp .ne 14, 3) := by decide +kernel
theorem d13_6 : decode prog_43_method_11_code 6 = .ok (.aload_n 0, 1) := by decide +kernel
theorem d13_7 : decode prog_43_method_11_code 7 = .ok (.aload_n 1, 1) := by decide +kernel
theorem d13_8 : decode prog_43_method_11_code 8 = .ok (.aload_n 2, 1) := by decide +kernel
theorem d13_9 : decode prog_43_method_11_code 9 = .ok (.iconst 0, 1) := by decide +kernel
theorem d13_10 : decode prog_43_method_11_code 10 = .ok (.iaload, 1) := by decide +kernel
theorem d13_11 : decode prog_43_method_11_code 11 = .ok (.invokevirtual 57, 3) := by decide +kernel
theorem d13_14 : decode prog_43_method_11_code 14 = .ok (.goto 15, 3) := by decide +kernel
theorem d13_17 : decode prog_43_method_11_code 17 = .ok (.aload_n 0, 1) := by decide +kernel
theorem d13_18 : decode prog_43_method_11_code 18 = .ok (.getstatic 61, 3) := by decide +kernel
theorem d13_21 : decode prog_43_method_11_code 21 = .ok (.putfield 21, 3) := by decide +kernel
theorem d13_24 : decode prog_43_method_11_code 24 = .ok (.aload_n 0, 1) := by decide +kernel
theorem d13_25 : decode prog_43_method_11_code 25 = .ok (.aload_n 2, 1) := by decide +kernel
theorem d13_26 : decode prog_43_method_11_code 26 = .ok (.putfield 25, 3) := by decide +kernel
theorem d13_29 : decode prog_43_method_11_code 29 = .ok (.return_, 1) := by decide +kernel
set_option maxRecDepth 65536 in
set_option maxHeartbeats 40000000 in
theorem b13 {l : Launch} {Z : State} {a0 : Array Value} (hw : HW a0 Z) (x0 : Addr) (x1 : Value) (rx1 : x1.isRef = true) (x2 : Addr) {tg st : Value} {oc on n y0 : Int32} {s_AMBIGUOUS : Addr} {vs : List Value} {n0 : Nat} {h : Heap} (Z0 : n0 ≤ h.size) (g0 : n0 ≤ x0) (S_AMBIGUOUS : Sta Z h "com/example/kartoteka/kartoteka/format/LinkStatus" "AMBIGUOUS" "Lcom/example/kartoteka/kartoteka/format/LinkStatus;" (.ref s_AMBIGUOUS)) (A2 : OA Z h x2 .int vs) (H0 : HLS Z h x0 tg oc st .null .null on) (hl : vs.length.toInt32 = n) (ha : vs[0]? = some (.int y0)) (hy : ¬ y0 < (0 : Int32)) (hne : x2 ≠ x0) : OM l Z (⟨"com/example/kartoteka/kartoteka/format/HeadingLink", "found", "(Lcom/example/kartoteka/kartoteka/format/LinkStatus;[I)V"⟩ : MethodName) prog_43_method_11_code 3 none ⟨1, 0, 0, 14⟩ n0 h #[(.ref x0), x1, (.ref x2)] (fun v h' => v = none ∧ Keep h h' [x0] ∧ AUTHS Z h' x0 n) 0 0 := by
  refine OM.of_body (ls := #[.val (.ref x0), .val x1, .val (.ref x2)]) (plainFor_of_name pn_2) (fun m => by rcases ref_cases rx1 with rfl | ⟨_, rfl⟩ <;> first | (simp [entryFrame, mkF, argsToLocals, Value.category]; done) | rfl) ?_
  intro p e s m below meth c C
  obtain ⟨E0, Ft, Fo, Fs, Fv, Fb, F1⟩ := H0
  refine OG.ow (OG.aloadN C d13_0 rfl rfl (pc' := 1) rfl) ?_
  refine OG.ow (OG.arraylength C A2 (z := n) hl d13_1 (pc' := 2) rfl) ?_
  refine OG.ow (OG.iconst C d13_2 (z := (1 : Int32)) rfl (pc' := 3) rfl) ?_
  by_cases hc1 : n = (1 : Int32)
  · refine OG.ow (OG.icmpNo C d13_3 (teq hc1).2 (pc' := 6) rfl) ?_
    refine OG.ow (OG.aloadN C d13_6 rfl rfl (pc' := 7) rfl) ?_
    refine OG.ow (OG.aloadN C d13_7 rfl rx1 (pc' := 8) rfl) ?_
    refine OG.ow (OG.aloadN C d13_8 rfl rfl (pc' := 9) rfl) ?_
    refine OG.ow (OG.iconst C d13_9 (z := (0 : Int32)) rfl (pc' := 10) rfl) ?_
    refine OG.ow (OG.iaload C A2 (own_0 ha) ha d13_10 (pc' := 11) rfl) ?_
    refine OW.callV C (w91 hw) (w92 hw) (w94 hw) (w93 hw) (w3 hw) (w95 hw) (by decide) E0 (b14 hw x0 x1 rx1 y0 Z0 g0  ⟨E0, Ft, Fo, Fs, Fv, Fb, F1⟩) d13_11 pd_3 rfl (argsL := [x1, (.int y0)]) (rest := []) rfl rfl (W := 0) rfl (by decide) (by decide) (by decide) (by decide) (pc' := 14) rfl ?_
    intro vh2 h2 qh2
    obtain ⟨rfl, Kh2, Eh2, Ft_h2, Fo_h2, Fs_h2, Fv_h2, Fb_h2, F1_h2⟩ := qh2
    refine OG.ow (OG.goto C d13_14 (by decide) (pc' := 29) (by decide)) ?_
    refine OW.retV C d13_29 (by decide) (by decide) ?_
    refine ⟨rfl, ((Keep.refl h [x0]).trans Kh2 (allS (Or.inl (List.mem_of_getElem? (i := 0) rfl)) all0)), _, _, _, _, _, _, ⟨Eh2, Ft_h2, Fo_h2, Fs_h2, Fv_h2, Fb_h2, F1_h2⟩, Or.inr (Or.inr ⟨rfl, rfl, ?_⟩)⟩
    rw [if_neg hy]; exact hc1
  · refine OG.ow (OG.icmpYes C d13_3 (feq hc1).2 (by decide) (pc' := 17) (by decide)) ?_
    refine OG.ow (OG.aloadN C d13_17 rfl rfl (pc' := 18) rfl) ?_
    refine OG.ow (OG.getS C (host := "") (Or.inl (w102 hw)) Via.refl S_AMBIGUOUS d13_18 (pc' := 21) rfl) ?_
    refine OW.putF C (host := "") (Or.inl (w70 hw)) Via.refl Fs E0 (Or.inl (w71 hw)) (w2 hw) (ty := (.object "com/example/kartoteka/kartoteka/format/LinkStatus")) (by decide) rfl rfl g0 d13_21 (pc' := 24) rfl ?_
    intro h3 Wh3
    have G4 := Fld.same Wh3 Fs
    refine OG.ow (OG.aloadN C d13_24 rfl rfl (pc' := 25) rfl) ?_
    refine OG.ow (OG.aloadN C d13_25 rfl rfl (pc' := 26) rfl) ?_
    have G5 := (Fld.other Wh3 Fv (Or.inr (slot_ne (Or.inl (w40 hw)) (Or.inl (w71 hw)) (by decide) (t := (.array .int)) (t' := (.object "com/example/kartoteka/kartoteka/format/LinkStatus")) (by decide) (by decide))))
    have G6 := (Exa.wr Wh3 E0)
    refine OW.putF C (host := "") (Or.inl (w39 hw)) Via.refl G5 G6 (Or.inl (w40 hw)) (w2 hw) (ty := (.array .int)) (by decide) rfl rfl g0 d13_26 (pc' := 29) rfl ?_
    intro h7 Wh7
    have G8 := Fld.same Wh7 G5
    refine OW.retV C d13_29 (by decide) (by decide) ?_
    have G9 := (Exa.wr Wh7 G6)
    have G10 := (Fld.other Wh7 (Fld.other Wh3 Ft (Or.inr (slot_ne (Or.inl (w34 hw)) (Or.inl (w71 hw)) (by decide) (t := (.object "java/lang/String")) (t' := (.object "com/example/kartoteka/kartoteka/format/LinkStatus")) (by decide) (by decide)))) (Or.inr (slot_ne (Or.inl (w34 hw)) (Or.inl (w40 hw)) (by decide) (t := (.object "java/lang/String")) (t' := (.array .int)) (by decide) (by decide))))
    have G11 := (Fld.other Wh7 (Fld.other Wh3 Fo (Or.inr (slot_ne (Or.inl (w36 hw)) (Or.inl (w71 hw)) (by decide) (t := .int) (t' := (.object "com/example/kartoteka/kartoteka/format/LinkStatus")) (by decide) (by decide)))) (Or.inr (slot_ne (Or.inl (w36 hw)) (Or.inl (w40 hw)) (by decide) (t := .int) (t' := (.array .int)) (by decide) (by decide))))
    have G12 := (Fld.other Wh7 G4 (Or.inr (slot_ne (Or.inl (w71 hw)) (Or.inl (w40 hw)) (by decide) (t := (.object "com/example/kartoteka/kartoteka/format/LinkStatus")) (t' := (.array .int)) (by decide) (by decide))))
    have G13 := (Fld.other Wh7 (Fld.other Wh3 Fb (Or.inr (slot_ne (Or.inl (w38 hw)) (Or.inl (w71 hw)) (by decide) (t := (.object "java/lang/CharSequence")) (t' := (.object "com/example/kartoteka/kartoteka/format/LinkStatus")) (by decide) (by decide)))) (Or.inr (slot_ne (Or.inl (w38 hw)) (Or.inl (w40 hw)) (by decide) (t := (.object "java/lang/CharSequence")) (t' := (.array .int)) (by decide) (by decide))))
    have G14 := (Fld.other Wh7 (Fld.other Wh3 F1 (Or.inr (slot_ne (Or.inl (w42 hw)) (Or.inl (w71 hw)) (by decide) (t := .int) (t' := (.object "com/example/kartoteka/kartoteka/format/LinkStatus")) (by decide) (by decide)))) (Or.inr (slot_ne (Or.inl (w42 hw)) (Or.inl (w40 hw)) (by decide) (t := .int) (t' := (.array .int)) (by decide) (by decide))))
    have G15 := (OA.other (OA.other A2 Wh3 hne) Wh7 hne)
    exact ⟨rfl, (((Keep.refl h [x0]).wr Wh3 (Or.inl (List.mem_of_getElem? (i := 0) rfl))).wr Wh7 (Or.inl (List.mem_of_getElem? (i := 0) rfl))), _, _, _, _, _, _, ⟨G9, G10, G11, G12, G8, G13, G14⟩, Or.inl ⟨_, _, rfl, G15, hl⟩⟩
theorem d15_0 : decode method_3_code 0 = .ok (.iload_n 0, 1) := by decide +kernel
theorem d15_1 : decode method_3_code 1 = .ok (.ifCond .ne 7, 3) := by decide +kernel
theorem d15_4 : decode method_3_code 4 = .ok (.getstatic 7, 3) := by decide +kernel
theorem d15_7 : decode method_3_code 7 = .ok (.areturn, 1) := by decide +kernel
theorem d15_8 : decode method_3_code 8 = .ok (.iload_n 0, 1) := by decide +kernel
theorem d15_9 : decode method_3_code 9 = .ok (.iconst 1, 1) := by decide +kernel
theorem d15_10 : decode method_3_code 10 = .ok (.if_icmp .ne 7, 3) := by decide +kernel
theorem d15_13 : decode method_3_code 13 = .ok (.getstatic 13, 3) := by decide +kernel
theorem d15_16 : decode method_3_code 16 = .ok (.areturn, 1) := by decide +kernel
theorem d15_17 : decode method_3_code 17 = .ok (.iload_n 0, 1) := by decide +kernel
theorem d15_18 : decode method_3_code 18 = .ok (.iconst 2, 1) := by decide +kernel
theorem d15_19 : decode method_3_code 19 = .ok (.if_icmp .ne 7, 3) := by decide +kernel
theorem d15_22 : decode method_3_code 22 = .ok (.getstatic 16, 3) := by decide +kernel
theorem d15_25 : decode method_3_code 25 = .ok (.areturn, 1) := by decide +kernel
theorem d15_26 : decode method_3_code 26 = .ok (.getstatic 19, 3) := by decide +kernel
theorem d15_29 : decode method_3_code 29 = .ok (.areturn, 1) := by decide +kernel
def F15 (x0 : Int32) (s_LINKED : Addr) (s_LINKED_DIFFERS : Addr) (s_ACCEPTED : Addr) (s_VARIANT : Addr) : Addr := if x0 = (0 : Int32) then (s_LINKED) else (if x0 = (1 : Int32) then (s_LINKED_DIFFERS) else (if x0 = (2 : Int32) then (s_ACCEPTED) else (s_VARIANT)))
set_option maxRecDepth 65536 in
set_option maxHeartbeats 40000000 in
theorem b15 {l : Launch} {Z : State} {a0 : Array Value} (hw : HW a0 Z) (x0 : Int32) {n0 : Nat} {h : Heap} {s_LINKED s_LINKED_DIFFERS s_ACCEPTED s_VARIANT : Addr} (S_LINKED : Sta Z h "com/example/kartoteka/kartoteka/format/LinkStatus" "LINKED" "Lcom/example/kartoteka/kartoteka/format/LinkStatus;" (.ref s_LINKED)) (S_LINKED_DIFFERS : Sta Z h "com/example/kartoteka/kartoteka/format/LinkStatus" "LINKED_DIFFERS" "Lcom/example/kartoteka/kartoteka/format/LinkStatus;" (.ref s_LINKED_DIFFERS)) (S_ACCEPTED : Sta Z h "com/example/kartoteka/kartoteka/format/LinkStatus" "ACCEPTED" "Lcom/example/kartoteka/kartoteka/format/LinkStatus;" (.ref s_ACCEPTED)) (S_VARIANT : Sta Z h "com/example/kartoteka/kartoteka/format/LinkStatus" "VARIANT" "Lcom/example/kartoteka/kartoteka/format/LinkStatus;" (.ref s_VARIANT)) : OM l Z (⟨"com/example/kartoteka/kartoteka/format/HeadingLinkAuthoritiesPinLaw", "single", "(I)Lcom/example/kartoteka/kartoteka/format/LinkStatus;"⟩ : MethodName) method_3_code 1 (some (.object "com/example/kartoteka/kartoteka/format/LinkStatus")) ⟨0, 0, 0, 0⟩ n0 h #[(.int x0)] (fun v h' => v = some (.ref (F15 x0 s_LINKED s_LINKED_DIFFERS s_ACCEPTED s_VARIANT)) ∧ h' = h) 0 0 := by
  refine OM.of_body (ls := #[.val (.int x0)]) (plainFor_of_name pn_3) (fun m => by first | (simp [entryFrame, mkF, argsToLocals, Value.category]; done) | rfl) ?_
  intro p e s m below meth c C
  refine OG.ow (OG.iloadN C d15_0 rfl (pc' := 1) rfl) ?_
  by_cases hc1 : x0 = (0 : Int32)
  · refine OG.ow (OG.ifNo C d15_1 ((if0 _ _).trans (teq hc1).2) (pc' := 4) rfl) ?_
    refine OG.ow (OG.getS C (host := "") (Or.inl (w106 hw)) Via.refl S_LINKED d15_4 (pc' := 7) rfl) ?_
    refine OW.retA C rfl rfl d15_7 (by decide) (by decide) ?_
    refine ⟨congrArg (fun z => some (Value.ref z)) ?_, rfl⟩
    show _ = F15 x0 s_LINKED s_LINKED_DIFFERS s_ACCEPTED s_VARIANT
    first | (unfold F15; rw [if_pos hc1]) | (unfold F15; dsimp only; rw [if_pos hc1])
  · refine OG.ow (OG.ifYes C d15_1 ((if0 _ _).trans (feq hc1).2) (by decide) (pc' := 8) (by decide)) ?_
    refine OG.ow (OG.iloadN C d15_8 rfl (pc' := 9) rfl) ?_
    refine OG.ow (OG.iconst C d15_9 (z := (1 : Int32)) rfl (pc' := 10) rfl) ?_
    by_cases hc2 : x0 = (1 : Int32)
    · refine OG.ow (OG.icmpNo C d15_10 (teq hc2).2 (pc' := 13) rfl) ?_
      refine OG.ow (OG.getS C (host := "") (Or.inl (w104 hw)) Via.refl S_LINKED_DIFFERS d15_13 (pc' := 16) rfl) ?_
      refine OW.retA C rfl rfl d15_16 (by decide) (by decide) ?_
      refine ⟨congrArg (fun z => some (Value.ref z)) ?_, rfl⟩
      show _ = F15 x0 s_LINKED s_LINKED_DIFFERS s_ACCEPTED s_VARIANT
      first | (unfold F15; rw [if_neg hc1, if_pos hc2]) | (unfold F15; dsimp only; rw [if_neg hc1, if_pos hc2])
    · refine OG.ow (OG.icmpYes C d15_10 (feq hc2).2 (by decide) (pc' := 17) (by decide)) ?_
      refine OG.ow (OG.iloadN C d15_17 rfl (pc' := 18) rfl) ?_
      refine OG.ow (OG.iconst C d15_18 (z := (2 : Int32)) rfl (pc' := 19) rfl) ?_
      by_cases hc3 : x0 = (2 : Int32)
      · refine OG.ow (OG.icmpNo C d15_19 (teq hc3).2 (pc' := 22) rfl) ?_
        refine OG.ow (OG.getS C (host := "") (Or.inl (w84 hw)) Via.refl S_ACCEPTED d15_22 (pc' := 25) rfl) ?_
        refine OW.retA C rfl rfl d15_25 (by decide) (by decide) ?_
        refine ⟨congrArg (fun z => some (Value.ref z)) ?_, rfl⟩
        show _ = F15 x0 s_LINKED s_LINKED_DIFFERS s_ACCEPTED s_VARIANT
        first | (unfold F15; rw [if_neg hc1, if_neg hc2, if_pos hc3]) | (unfold F15; dsimp only; rw [if_neg hc1, if_neg hc2, if_pos hc3])
      · refine OG.ow (OG.icmpYes C d15_19 (feq hc3).2 (by decide) (pc' := 26) (by decide)) ?_
        refine OG.ow (OG.getS C (host := "") (Or.inl (w99 hw)) Via.refl S_VARIANT d15_26 (pc' := 29) rfl) ?_
        refine OW.retA C rfl rfl d15_29 (by decide) (by decide) ?_
        refine ⟨congrArg (fun z => some (Value.ref z)) ?_, rfl⟩
        show _ = F15 x0 s_LINKED s_LINKED_DIFFERS s_ACCEPTED s_VARIANT
        first | (unfold F15; rw [if_neg hc1, if_neg hc2, if_neg hc3]) | (unfold F15; dsimp only; rw [if_neg hc1, if_neg hc2, if_neg hc3])
theorem own_4 {x : Int32} (hn : x = (1 : Int32) ∨ x = (2 : Int32) ∨ x = (3 : Int32) ∨ x = (4 : Int32)) (h1 : ¬ x = (1 : Int32)) (h2 : ¬ x = (2 : Int32)) (h3 : ¬ x = (3 : Int32)) : x = (4 : Int32) := by
  rcases hn with q | q | q | q
  · exact absurd q h1
  · exact absurd q h2
  · exact absurd q h3
  · exact q
theorem d4_0 : decode method_2_code 0 = .ok (.iload_n 0, 1) := by decide +kernel
theorem d4_1 : decode method_2_code 1 = .ok (.iconst 1, 1) := by decide +kernel
theorem d4_2 : decode method_2_code 2 = .ok (.if_icmp .ne 11, 3) := by decide +kernel
theorem d4_5 : decode method_2_code 5 = .ok (.iconst 1, 1) := by decide +kernel
theorem d4_6 : decode method_2_code 6 = .ok (.newarray .int, 2) := by decide +kernel
theorem d4_8 : decode method_2_code 8 = .ok (.dup, 1) := by decide +kernel
theorem d4_9 : decode method_2_code 9 = .ok (.iconst 0, 1) := by decide +kernel
theorem d4_10 : decode method_2_code 10 = .ok (.iload_n 1, 1) := by decide +kernel
theorem d4_11 : decode method_2_code 11 = .ok (.iastore, 1) := by decide +kernel
theorem d4_12 : decode method_2_code 12 = .ok (.areturn, 1) := by decide +kernel
theorem d4_13 : decode method_2_code 13 = .ok (.iload_n 0, 1) := by decide +kernel
theorem d4_14 : decode method_2_code 14 = .ok (.iconst 2, 1) := by decide +kernel
theorem d4_15 : decode method_2_code 15 = .ok (.if_icmp .ne 15, 3) := by decide +kernel
theorem d4_18 : decode method_2_code 18 = .ok (.iconst 2, 1) := by decide +kernel
theorem d4_19 : decode method_2_code 19 = .ok (.newarray .int, 2) := by decide +kernel
theorem d4_21 : decode method_2_code 21 = .ok (.dup, 1) := by decide +kernel
theorem d4_22 : decode method_2_code 22 = .ok (.iconst 0, 1) := by decide +kernel
theorem d4_23 : decode method_2_code 23 = .ok (.iload_n 1, 1) := by decide +kernel
theorem d4_24 : decode method_2_code 24 = .ok (.iastore, 1) := by decide +kernel
theorem d4_25 : decode method_2_code 25 = .ok (.dup, 1) := by decide +kernel
theorem d4_26 : decode method_2_code 26 = .ok (.iconst 1, 1) := by decide +kernel
theorem d4_27 : decode method_2_code 27 = .ok (.iload_n 2, 1) := by decide +kernel
theorem d4_28 : decode method_2_code 28 = .ok (.iastore, 1) := by decide +kernel
theorem d4_29 : decode method_2_code 29 = .ok (.areturn, 1) := by decide +kernel
theorem d4_30 : decode method_2_code 30 = .ok (.iload_n 0, 1) := by decide +kernel
theorem d4_31 : decode method_2_code 31 = .ok (.iconst 3, 1) := by decide +kernel
theorem d4_32 : decode method_2_code 32 = .ok (.if_icmp .ne 19, 3) := by decide +kernel
theorem d4_35 : decode method_2_code 35 = .ok (.iconst 3, 1) := by decide +kernel
theorem d4_36 : decode method_2_code 36 = .ok (.newarray .int, 2) := by decide +kernel
theorem d4_38 : decode method_2_code 38 = .ok (.dup, 1) := by decide +kernel
theorem d4_39 : decode method_2_code 39 = .ok (.iconst 0, 1) := by decide +kernel
theorem d4_40 : decode method_2_code 40 = .ok (.iload_n 1, 1) := by decide +kernel
theorem d4_41 : decode method_2_code 41 = .ok (.iastore, 1) := by decide +kernel
theorem d4_42 : decode method_2_code 42 = .ok (.dup, 1) := by decide +kernel
theorem d4_43 : decode method_2_code 43 = .ok (.iconst 1, 1) := by decide +kernel
theorem d4_44 : decode method_2_code 44 = .ok (.iload_n 2, 1) := by decide +kernel
theorem d4_45 : decode method_2_code 45 = .ok (.iastore, 1) := by decide +kernel
theorem d4_46 : decode method_2_code 46 = .ok (.dup, 1) := by decide +kernel
theorem d4_47 : decode method_2_code 47 = .ok (.iconst 2, 1) := by decide +kernel
theorem d4_48 : decode method_2_code 48 = .ok (.iload_n 1, 1) := by decide +kernel
theorem d4_49 : decode method_2_code 49 = .ok (.iastore, 1) := by decide +kernel
theorem d4_50 : decode method_2_code 50 = .ok (.areturn, 1) := by decide +kernel
theorem d4_51 : decode method_2_code 51 = .ok (.iconst 4, 1) := by decide +kernel
theorem d4_52 : decode method_2_code 52 = .ok (.newarray .int, 2) := by decide +kernel
theorem d4_54 : decode method_2_code 54 = .ok (.dup, 1) := by decide +kernel
theorem d4_55 : decode method_2_code 55 = .ok (.iconst 0, 1) := by decide +kernel
theorem d4_56 : decode method_2_code 56 = .ok (.iload_n 1, 1) := by decide +kernel
theorem d4_57 : decode method_2_code 57 = .ok (.iastore, 1) := by decide +kernel
theorem d4_58 : decode method_2_code 58 = .ok (.dup, 1) := by decide +kernel
theorem d4_59 : decode method_2_code 59 = .ok (.iconst 1, 1) := by decide +kernel
theorem d4_60 : decode method_2_code 60 = .ok (.iload_n 2, 1) := by decide +kernel
theorem d4_61 : decode method_2_code 61 = .ok (.iastore, 1) := by decide +kernel
theorem d4_62 : decode method_2_code 62 = .ok (.dup, 1) := by decide +kernel
theorem d4_63 : decode method_2_code 63 = .ok (.iconst 2, 1) := by decide +kernel
theorem d4_64 : decode method_2_code 64 = .ok (.iload_n 1, 1) := by decide +kernel
theorem d4_65 : decode method_2_code 65 = .ok (.iastore, 1) := by decide +kernel
theorem d4_66 : decode method_2_code 66 = .ok (.dup, 1) := by decide +kernel
theorem d4_67 : decode method_2_code 67 = .ok (.iconst 3, 1) := by decide +kernel
theorem d4_68 : decode method_2_code 68 = .ok (.iload_n 2, 1) := by decide +kernel
theorem d4_69 : decode method_2_code 69 = .ok (.iastore, 1) := by decide +kernel
theorem d4_70 : decode method_2_code 70 = .ok (.areturn, 1) := by decide +kernel
set_option maxRecDepth 65536 in
set_option maxHeartbeats 40000000 in
theorem b4 {l : Launch} {Z : State} {a0 : Array Value} (hw : HW a0 Z) (x0 : Int32) (x1 : Int32) (x2 : Int32) {n0 : Nat} {h : Heap} (Z0 : n0 ≤ h.size) (hn : x0 = (1 : Int32) ∨ x0 = (2 : Int32) ∨ x0 = (3 : Int32) ∨ x0 = (4 : Int32)) : OM l Z (⟨"com/example/kartoteka/kartoteka/format/HeadingLinkAuthoritiesPinLaw", "indexes", "(III)[I"⟩ : MethodName) method_2_code 3 (some (.array .int)) ⟨0, 1, 4, 0⟩ n0 h #[(.int x0), (.int x1), (.int x2)] (fun v h' => ∃ (q : Addr) (vs : List Value), v = some (.ref q) ∧ h.size ≤ q ∧ Keep h h' [] ∧ OA Z h' q .int vs ∧ vs.length.toInt32 = x0 ∧ vs[0]? = some (.int x1)) 1 4 := by
  refine OM.of_body (ls := #[.val (.int x0), .val (.int x1), .val (.int x2)]) (plainFor_of_name pn_3) (fun m => by first | (simp [entryFrame, mkF, argsToLocals, Value.category]; done) | rfl) ?_
  intro p e s m below meth c C
  refine OG.ow (OG.iloadN C d4_0 rfl (pc' := 1) rfl) ?_
  refine OG.ow (OG.iconst C d4_1 (z := (1 : Int32)) rfl (pc' := 2) rfl) ?_
  by_cases hc1 : x0 = (1 : Int32)
  · refine OG.ow (OG.icmpNo C d4_2 (teq hc1).2 (pc' := 5) rfl) ?_
    refine OG.ow (OG.iconst C d4_5 (z := (1 : Int32)) rfl (pc' := 6) rfl) ?_
    refine OW.newP C (ty := .int) rfl (w19 hw) (by decide) (cap := 1) (by decide) (by decide) d4_6 (by decide) (by decide) (pc' := 8) rfl ?_
    intro a2 h3 ga2 Eh3 Aa2
    refine OG.ow (OG.dup C d4_8 rfl (pc' := 9) rfl) ?_
    refine OG.ow (OG.iconst C d4_9 (z := (0 : Int32)) rfl (pc' := 10) rfl) ?_
    refine OG.ow (OG.iloadN C d4_10 rfl (pc' := 11) rfl) ?_
    refine OW.iastore C (show OA Z h3 a2 .int [(.int (0 : Int32))] from Aa2) (own_ib (n := 1) rfl (by decide)) (Nat.le_trans Z0 (Nat.le_of_eq ga2)) d4_11 (pc' := 12) rfl ?_
    intro h4 Wh4
    have G5 : OA Z h4 a2 .int [(.int x1)] := OA.same (show OA Z h3 a2 .int [(.int (0 : Int32))] from Aa2) Wh4
    refine OW.retA C rfl rfl d4_12 (by decide) (by decide) ?_
    exact ⟨_, _, rfl, (Nat.le_of_eq ga2), (((Keep.refl h []).ext Eh3).wr Wh4 (Or.inr (Nat.le_trans (Nat.le_refl _) (Nat.le_of_eq ga2)))), G5, hc1.symm, rfl⟩
  · refine OG.ow (OG.icmpYes C d4_2 (feq hc1).2 (by decide) (pc' := 13) (by decide)) ?_
    refine OG.ow (OG.iloadN C d4_13 rfl (pc' := 14) rfl) ?_
    refine OG.ow (OG.iconst C d4_14 (z := (2 : Int32)) rfl (pc' := 15) rfl) ?_
    by_cases hc6 : x0 = (2 : Int32)
    · refine OG.ow (OG.icmpNo C d4_15 (teq hc6).2 (pc' := 18) rfl) ?_
      refine OG.ow (OG.iconst C d4_18 (z := (2 : Int32)) rfl (pc' := 19) rfl) ?_
      refine OW.newP C (ty := .int) rfl (w19 hw) (by decide) (cap := 2) (by decide) (by decide) d4_19 (by decide) (by decide) (pc' := 21) rfl ?_
      intro a7 h8 ga7 Eh8 Aa7
      refine OG.ow (OG.dup C d4_21 rfl (pc' := 22) rfl) ?_
      refine OG.ow (OG.iconst C d4_22 (z := (0 : Int32)) rfl (pc' := 23) rfl) ?_
      refine OG.ow (OG.iloadN C d4_23 rfl (pc' := 24) rfl) ?_
      refine OW.iastore C (show OA Z h8 a7 .int [(.int (0 : Int32)), (.int (0 : Int32))] from Aa7) (own_ib (n := 2) rfl (by decide)) (Nat.le_trans Z0 (Nat.le_of_eq ga7)) d4_24 (pc' := 25) rfl ?_
      intro h9 Wh9
      have G10 : OA Z h9 a7 .int [(.int x1), (.int (0 : Int32))] := OA.same (show OA Z h8 a7 .int [(.int (0 : Int32)), (.int (0 : Int32))] from Aa7) Wh9
      refine OG.ow (OG.dup C d4_25 rfl (pc' := 26) rfl) ?_
      refine OG.ow (OG.iconst C d4_26 (z := (1 : Int32)) rfl (pc' := 27) rfl) ?_
      refine OG.ow (OG.iloadN C d4_27 rfl (pc' := 28) rfl) ?_
      refine OW.iastore C G10 (own_ib (n := 2) rfl (by decide)) (Nat.le_trans Z0 (Nat.le_of_eq ga7)) d4_28 (pc' := 29) rfl ?_
      intro h11 Wh11
      have G12 : OA Z h11 a7 .int [(.int x1), (.int x2)] := OA.same G10 Wh11
      refine OW.retA C rfl rfl d4_29 (by decide) (by decide) ?_
      exact ⟨_, _, rfl, (Nat.le_of_eq ga7), ((((Keep.refl h []).ext Eh8).wr Wh9 (Or.inr (Nat.le_trans (Nat.le_refl _) (Nat.le_of_eq ga7)))).wr Wh11 (Or.inr (Nat.le_trans (Nat.le_refl _) (Nat.le_of_eq ga7)))), G12, hc6.symm, rfl⟩
    · refine OG.ow (OG.icmpYes C d4_15 (feq hc6).2 (by decide) (pc' := 30) (by decide)) ?_
      refine OG.ow (OG.iloadN C d4_30 rfl (pc' := 31) rfl) ?_
      refine OG.ow (OG.iconst C d4_31 (z := (3 : Int32)) rfl (pc' := 32) rfl) ?_
      by_cases hc13 : x0 = (3 : Int32)
      · refine OG.ow (OG.icmpNo C d4_32 (teq hc13).2 (pc' := 35) rfl) ?_
        refine OG.ow (OG.iconst C d4_35 (z := (3 : Int32)) rfl (pc' := 36) rfl) ?_
        refine OW.newP C (ty := .int) rfl (w19 hw) (by decide) (cap := 3) (by decide) (by decide) d4_36 (by decide) (by decide) (pc' := 38) rfl ?_
        intro a14 h15 ga14 Eh15 Aa14
        refine OG.ow (OG.dup C d4_38 rfl (pc' := 39) rfl) ?_
        refine OG.ow (OG.iconst C d4_39 (z := (0 : Int32)) rfl (pc' := 40) rfl) ?_
        refine OG.ow (OG.iloadN C d4_40 rfl (pc' := 41) rfl) ?_
        refine OW.iastore C (show OA Z h15 a14 .int [(.int (0 : Int32)), (.int (0 : Int32)), (.int (0 : Int32))] from Aa14) (own_ib (n := 3) rfl (by decide)) (Nat.le_trans Z0 (Nat.le_of_eq ga14)) d4_41 (pc' := 42) rfl ?_
        intro h16 Wh16
        have G17 : OA Z h16 a14 .int [(.int x1), (.int (0 : Int32)), (.int (0 : Int32))] := OA.same (show OA Z h15 a14 .int [(.int (0 : Int32)), (.int (0 : Int32)), (.int (0 : Int32))] from Aa14) Wh16
        refine OG.ow (OG.dup C d4_42 rfl (pc' := 43) rfl) ?_
        refine OG.ow (OG.iconst C d4_43 (z := (1 : Int32)) rfl (pc' := 44) rfl) ?_
        refine OG.ow (OG.iloadN C d4_44 rfl (pc' := 45) rfl) ?_
        refine OW.iastore C G17 (own_ib (n := 3) rfl (by decide)) (Nat.le_trans Z0 (Nat.le_of_eq ga14)) d4_45 (pc' := 46) rfl ?_
        intro h18 Wh18
        have G19 : OA Z h18 a14 .int [(.int x1), (.int x2), (.int (0 : Int32))] := OA.same G17 Wh18
        refine OG.ow (OG.dup C d4_46 rfl (pc' := 47) rfl) ?_
        refine OG.ow (OG.iconst C d4_47 (z := (2 : Int32)) rfl (pc' := 48) rfl) ?_
        refine OG.ow (OG.iloadN C d4_48 rfl (pc' := 49) rfl) ?_
        refine OW.iastore C G19 (own_ib (n := 3) rfl (by decide)) (Nat.le_trans Z0 (Nat.le_of_eq ga14)) d4_49 (pc' := 50) rfl ?_
        intro h20 Wh20
        have G21 : OA Z h20 a14 .int [(.int x1), (.int x2), (.int x1)] := OA.same G19 Wh20
        refine OW.retA C rfl rfl d4_50 (by decide) (by decide) ?_
        exact ⟨_, _, rfl, (Nat.le_of_eq ga14), (((((Keep.refl h []).ext Eh15).wr Wh16 (Or.inr (Nat.le_trans (Nat.le_refl _) (Nat.le_of_eq ga14)))).wr Wh18 (Or.inr (Nat.le_trans (Nat.le_refl _) (Nat.le_of_eq ga14)))).wr Wh20 (Or.inr (Nat.le_trans (Nat.le_refl _) (Nat.le_of_eq ga14)))), G21, hc13.symm, rfl⟩
      · refine OG.ow (OG.icmpYes C d4_32 (feq hc13).2 (by decide) (pc' := 51) (by decide)) ?_
        refine OG.ow (OG.iconst C d4_51 (z := (4 : Int32)) rfl (pc' := 52) rfl) ?_
        refine OW.newP C (ty := .int) rfl (w19 hw) (by decide) (cap := 4) (by decide) (by decide) d4_52 (by decide) (by decide) (pc' := 54) rfl ?_
        intro a22 h23 ga22 Eh23 Aa22
        refine OG.ow (OG.dup C d4_54 rfl (pc' := 55) rfl) ?_
        refine OG.ow (OG.iconst C d4_55 (z := (0 : Int32)) rfl (pc' := 56) rfl) ?_
        refine OG.ow (OG.iloadN C d4_56 rfl (pc' := 57) rfl) ?_
        refine OW.iastore C (show OA Z h23 a22 .int [(.int (0 : Int32)), (.int (0 : Int32)), (.int (0 : Int32)), (.int (0 : Int32))] from Aa22) (own_ib (n := 4) rfl (by decide)) (Nat.le_trans Z0 (Nat.le_of_eq ga22)) d4_57 (pc' := 58) rfl ?_
        intro h24 Wh24
        have G25 : OA Z h24 a22 .int [(.int x1), (.int (0 : Int32)), (.int (0 : Int32)), (.int (0 : Int32))] := OA.same (show OA Z h23 a22 .int [(.int (0 : Int32)), (.int (0 : Int32)), (.int (0 : Int32)), (.int (0 : Int32))] from Aa22) Wh24
        refine OG.ow (OG.dup C d4_58 rfl (pc' := 59) rfl) ?_
        refine OG.ow (OG.iconst C d4_59 (z := (1 : Int32)) rfl (pc' := 60) rfl) ?_
        refine OG.ow (OG.iloadN C d4_60 rfl (pc' := 61) rfl) ?_
        refine OW.iastore C G25 (own_ib (n := 4) rfl (by decide)) (Nat.le_trans Z0 (Nat.le_of_eq ga22)) d4_61 (pc' := 62) rfl ?_
        intro h26 Wh26
        have G27 : OA Z h26 a22 .int [(.int x1), (.int x2), (.int (0 : Int32)), (.int (0 : Int32))] := OA.same G25 Wh26
        refine OG.ow (OG.dup C d4_62 rfl (pc' := 63) rfl) ?_
        refine OG.ow (OG.iconst C d4_63 (z := (2 : Int32)) rfl (pc' := 64) rfl) ?_
        refine OG.ow (OG.iloadN C d4_64 rfl (pc' := 65) rfl) ?_
        refine OW.iastore C G27 (own_ib (n := 4) rfl (by decide)) (Nat.le_trans Z0 (Nat.le_of_eq ga22)) d4_65 (pc' := 66) rfl ?_
        intro h28 Wh28
        have G29 : OA Z h28 a22 .int [(.int x1), (.int x2), (.int x1), (.int (0 : Int32))] := OA.same G27 Wh28
        refine OG.ow (OG.dup C d4_66 rfl (pc' := 67) rfl) ?_
        refine OG.ow (OG.iconst C d4_67 (z := (3 : Int32)) rfl (pc' := 68) rfl) ?_
        refine OG.ow (OG.iloadN C d4_68 rfl (pc' := 69) rfl) ?_
        refine OW.iastore C G29 (own_ib (n := 4) rfl (by decide)) (Nat.le_trans Z0 (Nat.le_of_eq ga22)) d4_69 (pc' := 70) rfl ?_
        intro h30 Wh30
        have G31 : OA Z h30 a22 .int [(.int x1), (.int x2), (.int x1), (.int x2)] := OA.same G29 Wh30
        refine OW.retA C rfl rfl d4_70 (by decide) (by decide) ?_
        exact ⟨_, _, rfl, (Nat.le_of_eq ga22), ((((((Keep.refl h []).ext Eh23).wr Wh24 (Or.inr (Nat.le_trans (Nat.le_refl _) (Nat.le_of_eq ga22)))).wr Wh26 (Or.inr (Nat.le_trans (Nat.le_refl _) (Nat.le_of_eq ga22)))).wr Wh28 (Or.inr (Nat.le_trans (Nat.le_refl _) (Nat.le_of_eq ga22)))).wr Wh30 (Or.inr (Nat.le_trans (Nat.le_refl _) (Nat.le_of_eq ga22)))), G31, (own_4 hn hc1 hc6 hc13).symm, rfl⟩
theorem d11_0 : decode prog_43_method_5_code 0 = .ok (.aload_n 0, 1) := by decide +kernel
theorem d11_1 : decode prog_43_method_5_code 1 = .ok (.getfield 25, 3) := by decide +kernel
theorem d11_4 : decode prog_43_method_5_code 4 = .ok (.ifnull 9, 3) := by decide +kernel
theorem d11_7 : decode prog_43_method_5_code 7 = .ok (.aload_n 0, 1) := by decide +kernel
theorem d11_8 : decode prog_43_method_5_code 8 = .ok (.getfield 25, 3) := by decide +kernel
theorem d11_11 : decode prog_43_method_5_code 11 = .ok (.arraylength, 1) := by decide +kernel
theorem d11_12 : decode prog_43_method_5_code 12 = .ok (.ireturn, 1) := by decide +kernel
theorem d11_13 : decode prog_43_method_5_code 13 = .ok (.aload_n 0, 1) := by decide +kernel
theorem d11_14 : decode prog_43_method_5_code 14 = .ok (.getfield 29, 3) := by decide +kernel
theorem d11_17 : decode prog_43_method_5_code 17 = .ok (.ifnonnull 10, 3) := by decide +kernel
theorem d11_20 : decode prog_43_method_5_code 20 = .ok (.aload_n 0, 1) := by decide +kernel
theorem d11_21 : decode prog_43_method_5_code 21 = .ok (.getfield 33, 3) := by decide +kernel
theorem d11_24 : decode prog_43_method_5_code 24 = .ok (.ifCond .lt 7, 3) := by decide +kernel
theorem d11_27 : decode prog_43_method_5_code 27 = .ok (.iconst 1, 1) := by decide +kernel
theorem d11_28 : decode prog_43_method_5_code 28 = .ok (.goto 4, 3) := by decide +kernel
theorem d11_31 : decode prog_43_method_5_code 31 = .ok (.iconst 0, 1) := by decide +kernel
theorem d11_32 : decode prog_43_method_5_code 32 = .ok (.ireturn, 1) := by decide +kernel
set_option maxRecDepth 65536 in
set_option maxHeartbeats 40000000 in
theorem bAa {l : Launch} {Z : State} {a0 : Array Value} (hw : HW a0 Z) (x0 : Addr) {tg st br : Value} {oc on r : Int32} {q : Addr} {vs : List Value} {n0 : Nat} {h : Heap} (Z0 : n0 ≤ h.size) (A2 : OA Z h q .int vs) (H0 : HLS Z h x0 tg oc st (.ref q) br on) (hl : vs.length.toInt32 = r) : OM l Z (⟨"com/example/kartoteka/kartoteka/format/HeadingLink", "authorities", "()I"⟩ : MethodName) prog_43_method_5_code 1 (some .int) ⟨0, 0, 0, 0⟩ n0 h #[(.ref x0)] (fun v h' => v = some (.int r) ∧ h' = h) 0 0 := by
  refine OM.of_body (ls := #[.val (.ref x0)]) (plainFor_of_name pn_2) (fun m => by first | (simp [entryFrame, mkF, argsToLocals, Value.category]; done) | rfl) ?_
  intro p e s m below meth c C
  obtain ⟨E0, Ft, Fo, Fs, Fv, Fb, F1⟩ := H0
  refine OG.ow (OG.aloadN C d11_0 rfl rfl (pc' := 1) rfl) ?_
  refine OG.ow (OG.getF C (host := "") (Or.inl (w39 hw)) Via.refl Fv d11_1 (pc' := 4) rfl) ?_
  refine OG.ow (OG.ifnullNo C d11_4 (pc' := 7) rfl) ?_
  refine OG.ow (OG.aloadN C d11_7 rfl rfl (pc' := 8) rfl) ?_
  refine OG.ow (OG.getF C (host := "") (Or.inl (w39 hw)) Via.refl Fv d11_8 (pc' := 11) rfl) ?_
  refine OG.ow (OG.arraylength C A2 (z := r) hl d11_11 (pc' := 12) rfl) ?_
  refine OW.retI C d11_12 (by decide) (by decide) ?_
  exact ⟨rfl, rfl⟩
set_option maxRecDepth 65536 in
set_option maxHeartbeats 40000000 in
theorem bAb {l : Launch} {Z : State} {a0 : Array Value} (hw : HW a0 Z) (x0 : Addr) {tg st : Value} {oc on r : Int32} {q : Addr} {n0 : Nat} {h : Heap} (Z0 : n0 ≤ h.size) (H0 : HLS Z h x0 tg oc st .null (.ref q) on) (hr : r = 1) : OM l Z (⟨"com/example/kartoteka/kartoteka/format/HeadingLink", "authorities", "()I"⟩ : MethodName) prog_43_method_5_code 1 (some .int) ⟨0, 0, 0, 0⟩ n0 h #[(.ref x0)] (fun v h' => v = some (.int r) ∧ h' = h) 0 0 := by
  refine OM.of_body (ls := #[.val (.ref x0)]) (plainFor_of_name pn_2) (fun m => by first | (simp [entryFrame, mkF, argsToLocals, Value.category]; done) | rfl) ?_
  intro p e s m below meth c C
  obtain ⟨E0, Ft, Fo, Fs, Fv, Fb, F1⟩ := H0
  refine OG.ow (OG.aloadN C d11_0 rfl rfl (pc' := 1) rfl) ?_
  refine OG.ow (OG.getF C (host := "") (Or.inl (w39 hw)) Via.refl Fv d11_1 (pc' := 4) rfl) ?_
  refine OG.ow (OG.ifnullYes C d11_4 (by decide) (pc' := 13) (by decide)) ?_
  refine OG.ow (OG.aloadN C d11_13 rfl rfl (pc' := 14) rfl) ?_
  refine OG.ow (OG.getF C (host := "") (Or.inl (w37 hw)) Via.refl Fb d11_14 (pc' := 17) rfl) ?_
  refine OG.ow (OG.ifnonnullYes C d11_17 (by decide) (pc' := 27) (by decide)) ?_
  refine OG.ow (OG.iconst C d11_27 (z := (1 : Int32)) rfl (pc' := 28) rfl) ?_
  refine OG.ow (OG.goto C d11_28 (by decide) (pc' := 32) (by decide)) ?_
  refine OW.retI C d11_32 (by decide) (by decide) ?_
  exact ⟨by rw [hr], rfl⟩
set_option maxRecDepth 65536 in
set_option maxHeartbeats 40000000 in
theorem bAc {l : Launch} {Z : State} {a0 : Array Value} (hw : HW a0 Z) (x0 : Addr) {tg st : Value} {oc on r : Int32} {n0 : Nat} {h : Heap} (Z0 : n0 ≤ h.size) (H0 : HLS Z h x0 tg oc st .null .null on) (hr : r = if on < (0 : Int32) then (0 : Int32) else (1 : Int32)) : OM l Z (⟨"com/example/kartoteka/kartoteka/format/HeadingLink", "authorities", "()I"⟩ : MethodName) prog_43_method_5_code 1 (some .int) ⟨0, 0, 0, 0⟩ n0 h #[(.ref x0)] (fun v h' => v = some (.int r) ∧ h' = h) 0 0 := by
  refine OM.of_body (ls := #[.val (.ref x0)]) (plainFor_of_name pn_2) (fun m => by first | (simp [entryFrame, mkF, argsToLocals, Value.category]; done) | rfl) ?_
  intro p e s m below meth c C
  obtain ⟨E0, Ft, Fo, Fs, Fv, Fb, F1⟩ := H0
  refine OG.ow (OG.aloadN C d11_0 rfl rfl (pc' := 1) rfl) ?_
  refine OG.ow (OG.getF C (host := "") (Or.inl (w39 hw)) Via.refl Fv d11_1 (pc' := 4) rfl) ?_
  refine OG.ow (OG.ifnullYes C d11_4 (by decide) (pc' := 13) (by decide)) ?_
  refine OG.ow (OG.aloadN C d11_13 rfl rfl (pc' := 14) rfl) ?_
  refine OG.ow (OG.getF C (host := "") (Or.inl (w37 hw)) Via.refl Fb d11_14 (pc' := 17) rfl) ?_
  refine OG.ow (OG.ifnonnullNo C d11_17 (pc' := 20) rfl) ?_
  refine OG.ow (OG.aloadN C d11_20 rfl rfl (pc' := 21) rfl) ?_
  refine OG.ow (OG.getF C (host := "") (Or.inl (w41 hw)) Via.refl F1 d11_21 (pc' := 24) rfl) ?_
  by_cases hc1 : on < (0 : Int32)
  · refine OG.ow (OG.ifYes C d11_24 ((if0 _ _).trans (tlt hc1).1) (by decide) (pc' := 31) (by decide)) ?_
    refine OG.ow (OG.iconst C d11_31 (z := (0 : Int32)) rfl (pc' := 32) rfl) ?_
    refine OW.retI C d11_32 (by decide) (by decide) ?_
    exact ⟨by rw [hr, if_pos hc1], rfl⟩
  · refine OG.ow (OG.ifNo C d11_24 ((if0 _ _).trans (flt hc1).1) (pc' := 27) rfl) ?_
    refine OG.ow (OG.iconst C d11_27 (z := (1 : Int32)) rfl (pc' := 28) rfl) ?_
    refine OG.ow (OG.goto C d11_28 (by decide) (pc' := 32) (by decide)) ?_
    refine OW.retI C d11_32 (by decide) (by decide) ?_
    exact ⟨by rw [hr, if_neg hc1], rfl⟩
theorem bA {l : Launch} {Z : State} {a0 : Array Value} (hw : HW a0 Z) (x0 : Addr) {r : Int32} {n0 : Nat} {h : Heap} (Z0 : n0 ≤ h.size) (H : AUTHS Z h x0 r) : OM l Z (⟨"com/example/kartoteka/kartoteka/format/HeadingLink", "authorities", "()I"⟩ : MethodName) prog_43_method_5_code 1 (some .int) ⟨0, 0, 0, 0⟩ n0 h #[(.ref x0)] (fun v h' => v = some (.int r) ∧ h' = h) 0 0 := by
  obtain ⟨tg, oc, st, sv, br, on, H0, ⟨q, vs, rfl, A, hl⟩ | ⟨rfl, ⟨q, rfl⟩, hr⟩ | ⟨rfl, rfl, hr⟩⟩ := H
  · exact bAa hw x0 Z0 A H0 hl
  · exact bAb hw x0 Z0 H0 hr
  · exact bAc hw x0 Z0 H0 hr
theorem own_255 (x : Int32) : ¬ (255 : Int32) < (x &&& (255 : Int32)).toUInt32.toUInt16.toUInt32.toInt32 := by
  rw [i2c_mask]
  have := (c_and x 255 (by decide)).2
  rw [Int32.lt_iff_toInt_lt]
  have e : (255 : Int32).toInt = 255 := by decide
  omega
theorem own_n (x : Int32) : ((1 : Int32) + ((x.toUInt32 >>> ((2 : Int32) &&& 31).toUInt32).toInt32 &&& (3 : Int32))) = (1 : Int32) ∨ ((1 : Int32) + ((x.toUInt32 >>> ((2 : Int32) &&& 31).toUInt32).toInt32 &&& (3 : Int32))) = (2 : Int32) ∨ ((1 : Int32) + ((x.toUInt32 >>> ((2 : Int32) &&& 31).toUInt32).toInt32 &&& (3 : Int32))) = (3 : Int32) ∨ ((1 : Int32) + ((x.toUInt32 >>> ((2 : Int32) &&& 31).toUInt32).toInt32 &&& (3 : Int32))) = (4 : Int32) := by
  generalize (x.toUInt32 >>> ((2 : Int32) &&& 31).toUInt32).toInt32 = z
  have e := c_mask z 3 2 (by decide) (by decide)
  have h1 := c_iadd 1 (z &&& 3)
  have h2 := rng32 (1 + (z &&& 3))
  have e1 : (1 : Int32).toInt = 1 := by decide
  have e2 : (2 : Int32).toInt = 2 := by decide
  have e3 : (3 : Int32).toInt = 3 := by decide
  have e4 : (4 : Int32).toInt = 4 := by decide
  simp only [← Int32.toInt_inj, e1, e2, e3, e4]
  omega
theorem d3_0 : decode method_4_code 0 = .ok (.iload_n 1, 1) := by decide +kernel
theorem d3_1 : decode method_4_code 1 = .ok (.iconst 3, 1) := by decide +kernel
theorem d3_2 : decode method_4_code 2 = .ok (.iand, 1) := by decide +kernel
theorem d3_3 : decode method_4_code 3 = .ok (.istore 5, 2) := by decide +kernel
theorem d3_5 : decode method_4_code 5 = .ok (.iconst 1, 1) := by decide +kernel
theorem d3_6 : decode method_4_code 6 = .ok (.iload_n 1, 1) := by decide +kernel
theorem d3_7 : decode method_4_code 7 = .ok (.iconst 2, 1) := by decide +kernel
theorem d3_8 : decode method_4_code 8 = .ok (.iushr, 1) := by decide +kernel
theorem d3_9 : decode method_4_code 9 = .ok (.iconst 3, 1) := by decide +kernel
theorem d3_10 : decode method_4_code 10 = .ok (.iand, 1) := by decide +kernel
theorem d3_11 : decode method_4_code 11 = .ok (.iadd, 1) := by decide +kernel
theorem d3_12 : decode method_4_code 12 = .ok (.istore 6, 2) := by decide +kernel
theorem d3_14 : decode method_4_code 14 = .ok (.iload_n 1, 1) := by decide +kernel
theorem d3_15 : decode method_4_code 15 = .ok (.iconst 4, 1) := by decide +kernel
theorem d3_16 : decode method_4_code 16 = .ok (.iushr, 1) := by decide +kernel
theorem d3_17 : decode method_4_code 17 = .ok (.iconst 3, 1) := by decide +kernel
theorem d3_18 : decode method_4_code 18 = .ok (.iand, 1) := by decide +kernel
theorem d3_19 : decode method_4_code 19 = .ok (.istore 7, 2) := by decide +kernel
theorem d3_21 : decode method_4_code 21 = .ok (.iload_n 1, 1) := by decide +kernel
theorem d3_22 : decode method_4_code 22 = .ok (.bipush 8, 2) := by decide +kernel
theorem d3_24 : decode method_4_code 24 = .ok (.iushr, 1) := by decide +kernel
theorem d3_25 : decode method_4_code 25 = .ok (.sipush 255, 3) := by decide +kernel
theorem d3_28 : decode method_4_code 28 = .ok (.iand, 1) := by decide +kernel
theorem d3_29 : decode method_4_code 29 = .ok (.i2c, 1) := by decide +kernel
theorem d3_30 : decode method_4_code 30 = .ok (.istore 8, 2) := by decide +kernel
theorem d3_32 : decode method_4_code 32 = .ok (.iload 6, 2) := by decide +kernel
theorem d3_34 : decode method_4_code 34 = .ok (.iload_n 3, 1) := by decide +kernel
theorem d3_35 : decode method_4_code 35 = .ok (.iload 4, 2) := by decide +kernel
theorem d3_37 : decode method_4_code 37 = .ok (.invokestatic 22, 3) := by decide +kernel
theorem d3_40 : decode method_4_code 40 = .ok (.astore 9, 2) := by decide +kernel
theorem d3_42 : decode method_4_code 42 = .ok (.aload_n 0, 1) := by decide +kernel
theorem d3_43 : decode method_4_code 43 = .ok (.ldc 28, 2) := by decide +kernel
theorem d3_45 : decode method_4_code 45 = .ok (.iload_n 2, 1) := by decide +kernel
theorem d3_46 : decode method_4_code 46 = .ok (.invokevirtual 30, 3) := by decide +kernel
theorem d3_49 : decode method_4_code 49 = .ok (.iload 5, 2) := by decide +kernel
theorem d3_51 : decode method_4_code 51 = .ok (.ifCond .ne 14, 3) := by decide +kernel
theorem d3_54 : decode method_4_code 54 = .ok (.aload_n 0, 1) := by decide +kernel
theorem d3_55 : decode method_4_code 55 = .ok (.iload 8, 2) := by decide +kernel
theorem d3_57 : decode method_4_code 57 = .ok (.invokestatic 36, 3) := by decide +kernel
theorem d3_60 : decode method_4_code 60 = .ok (.invokevirtual 42, 3) := by decide +kernel
theorem d3_63 : decode method_4_code 63 = .ok (.iconst 1, 1) := by decide +kernel
theorem d3_64 : decode method_4_code 64 = .ok (.ireturn, 1) := by decide +kernel
theorem d3_65 : decode method_4_code 65 = .ok (.iload 5, 2) := by decide +kernel
theorem d3_67 : decode method_4_code 67 = .ok (.iconst 1, 1) := by decide +kernel
theorem d3_68 : decode method_4_code 68 = .ok (.if_icmp .ne 15, 3) := by decide +kernel
theorem d3_71 : decode method_4_code 71 = .ok (.aload_n 0, 1) := by decide +kernel
theorem d3_72 : decode method_4_code 72 = .ok (.iload 7, 2) := by decide +kernel
theorem d3_74 : decode method_4_code 74 = .ok (.invokestatic 46, 3) := by decide +kernel
theorem d3_77 : decode method_4_code 77 = .ok (.iload_n 3, 1) := by decide +kernel
theorem d3_78 : decode method_4_code 78 = .ok (.invokevirtual 50, 3) := by decide +kernel
theorem d3_81 : decode method_4_code 81 = .ok (.iconst 1, 1) := by decide +kernel
theorem d3_82 : decode method_4_code 82 = .ok (.ireturn, 1) := by decide +kernel
theorem d3_83 : decode method_4_code 83 = .ok (.iload 5, 2) := by decide +kernel
theorem d3_85 : decode method_4_code 85 = .ok (.iconst 2, 1) := by decide +kernel
theorem d3_86 : decode method_4_code 86 = .ok (.if_icmp .ne 28, 3) := by decide +kernel
theorem d3_89 : decode method_4_code 89 = .ok (.aload_n 0, 1) := by decide +kernel
theorem d3_90 : decode method_4_code 90 = .ok (.iload 7, 2) := by decide +kernel
theorem d3_92 : decode method_4_code 92 = .ok (.iconst 1, 1) := by decide +kernel
theorem d3_93 : decode method_4_code 93 = .ok (.iand, 1) := by decide +kernel
theorem d3_94 : decode method_4_code 94 = .ok (.ifCond .ne 9, 3) := by decide +kernel
theorem d3_97 : decode method_4_code 97 = .ok (.getstatic 16, 3) := by decide +kernel
theorem d3_100 : decode method_4_code 100 = .ok (.goto 6, 3) := by decide +kernel
theorem d3_103 : decode method_4_code 103 = .ok (.getstatic 19, 3) := by decide +kernel
theorem d3_106 : decode method_4_code 106 = .ok (.aload 9, 2) := by decide +kernel
theorem d3_108 : decode method_4_code 108 = .ok (.invokevirtual 54, 3) := by decide +kernel
theorem d3_111 : decode method_4_code 111 = .ok (.iload 6, 2) := by decide +kernel
theorem d3_113 : decode method_4_code 113 = .ok (.ireturn, 1) := by decide +kernel
theorem d3_114 : decode method_4_code 114 = .ok (.aload_n 0, 1) := by decide +kernel
theorem d3_115 : decode method_4_code 115 = .ok (.invokevirtual 57, 3) := by decide +kernel
theorem d3_118 : decode method_4_code 118 = .ok (.iconst 0, 1) := by decide +kernel
theorem d3_119 : decode method_4_code 119 = .ok (.ireturn, 1) := by decide +kernel
set_option maxRecDepth 65536 in
set_option maxHeartbeats 40000000 in
theorem b3 {l : Launch} {Z : State} {a0 : Array Value} (hw : HW a0 Z) (x0 : Addr) (x1 : Int32) (x2 : Int32) (x3 : Int32) (x4 : Int32) {tg st sv br : Value} {oc on : Int32} {s_LINK_BROKEN s_UNKNOWN s_ACCEPTED s_VARIANT s_AMBIGUOUS s_LINKED_DIFFERS s_LINKED : Addr} {cs : Int32}  {n0 : Nat} {h : Heap} (Z0 : n0 ≤ h.size) (g0 : n0 ≤ x0) (S_LINK_BROKEN : Sta Z h "com/example/kartoteka/kartoteka/format/LinkStatus" "LINK_BROKEN" "Lcom/example/kartoteka/kartoteka/format/LinkStatus;" (.ref s_LINK_BROKEN)) (S_UNKNOWN : Sta Z h "com/example/kartoteka/kartoteka/format/LinkStatus" "UNKNOWN" "Lcom/example/kartoteka/kartoteka/format/LinkStatus;" (.ref s_UNKNOWN)) (S_ACCEPTED : Sta Z h "com/example/kartoteka/kartoteka/format/LinkStatus" "ACCEPTED" "Lcom/example/kartoteka/kartoteka/format/LinkStatus;" (.ref s_ACCEPTED)) (S_VARIANT : Sta Z h "com/example/kartoteka/kartoteka/format/LinkStatus" "VARIANT" "Lcom/example/kartoteka/kartoteka/format/LinkStatus;" (.ref s_VARIANT)) (S_AMBIGUOUS : Sta Z h "com/example/kartoteka/kartoteka/format/LinkStatus" "AMBIGUOUS" "Lcom/example/kartoteka/kartoteka/format/LinkStatus;" (.ref s_AMBIGUOUS)) (S_LINKED_DIFFERS : Sta Z h "com/example/kartoteka/kartoteka/format/LinkStatus" "LINKED_DIFFERS" "Lcom/example/kartoteka/kartoteka/format/LinkStatus;" (.ref s_LINKED_DIFFERS)) (S_LINKED : Sta Z h "com/example/kartoteka/kartoteka/format/LinkStatus" "LINKED" "Lcom/example/kartoteka/kartoteka/format/LinkStatus;" (.ref s_LINKED)) (S_cs : Sta Z h "java/lang/String" "COMPACT_STRINGS" "Z" (.int cs)) (hcs : ¬ cs = (0 : Int32)) (H0 : HLS Z h x0 tg oc st sv br on) (h3 : ¬ x3 < (0 : Int32)) : OM l Z (⟨"com/example/kartoteka/kartoteka/format/HeadingLinkAuthoritiesPinLaw", "step", "(Lcom/example/kartoteka/kartoteka/format/HeadingLink;IIII)I"⟩ : MethodName) method_4_code 10 (some .int) ⟨3, 5, 25, 40⟩ n0 h #[(.ref x0), (.int x1), (.int x2), (.int x3), (.int x4)] (fun v h' => ∃ r : Int32, v = some (.int r) ∧ Keep h h' [x0] ∧ AUTHS Z h' x0 r) 5 25 := by
  refine OM.of_body (ls := #[.val (.ref x0), .val (.int x1), .val (.int x2), .val (.int x3), .val (.int x4), .unset, .unset, .unset, .unset, .unset]) (plainFor_of_name pn_3) (fun m => by first | (simp [entryFrame, mkF, argsToLocals, Value.category]; done) | rfl) ?_
  intro p e s m below meth c C
  obtain ⟨E0, Ft, Fo, Fs, Fv, Fb, F1⟩ := H0
  refine OG.ow (OG.iloadN C d3_0 rfl (pc' := 1) rfl) ?_
  refine OG.ow (OG.iconst C d3_1 (z := (3 : Int32)) rfl (pc' := 2) rfl) ?_
  refine OG.ow (OG.iand C d3_2 (pc' := 3) rfl) ?_
  refine OG.ow (OG.istore C d3_3 (ls' := #[.val (.ref x0), .val (.int x1), .val (.int x2), .val (.int x3), .val (.int x4), .val (.int (x1 &&& (3 : Int32))), .unset, .unset, .unset, .unset]) rfl (pc' := 5) rfl) ?_
  refine OG.ow (OG.iconst C d3_5 (z := (1 : Int32)) rfl (pc' := 6) rfl) ?_
  refine OG.ow (OG.iloadN C d3_6 rfl (pc' := 7) rfl) ?_
  refine OG.ow (OG.iconst C d3_7 (z := (2 : Int32)) rfl (pc' := 8) rfl) ?_
  refine OG.ow (OG.iushr C d3_8 (pc' := 9) rfl) ?_
  refine OG.ow (OG.iconst C d3_9 (z := (3 : Int32)) rfl (pc' := 10) rfl) ?_
  refine OG.ow (OG.iand C d3_10 (pc' := 11) rfl) ?_
  refine OG.ow (OG.iadd C d3_11 (pc' := 12) rfl) ?_
  refine OG.ow (OG.istore C d3_12 (ls' := #[.val (.ref x0), .val (.int x1), .val (.int x2), .val (.int x3), .val (.int x4), .val (.int (x1 &&& (3 : Int32))), .val (.int ((1 : Int32) + ((x1.toUInt32 >>> ((2 : Int32) &&& 31).toUInt32).toInt32 &&& (3 : Int32)))), .unset, .unset, .unset]) rfl (pc' := 14) rfl) ?_
  refine OG.ow (OG.iloadN C d3_14 rfl (pc' := 15) rfl) ?_
  refine OG.ow (OG.iconst C d3_15 (z := (4 : Int32)) rfl (pc' := 16) rfl) ?_
  refine OG.ow (OG.iushr C d3_16 (pc' := 17) rfl) ?_
  refine OG.ow (OG.iconst C d3_17 (z := (3 : Int32)) rfl (pc' := 18) rfl) ?_
  refine OG.ow (OG.iand C d3_18 (pc' := 19) rfl) ?_
  refine OG.ow (OG.istore C d3_19 (ls' := #[.val (.ref x0), .val (.int x1), .val (.int x2), .val (.int x3), .val (.int x4), .val (.int (x1 &&& (3 : Int32))), .val (.int ((1 : Int32) + ((x1.toUInt32 >>> ((2 : Int32) &&& 31).toUInt32).toInt32 &&& (3 : Int32)))), .val (.int ((x1.toUInt32 >>> ((4 : Int32) &&& 31).toUInt32).toInt32 &&& (3 : Int32))), .unset, .unset]) rfl (pc' := 21) rfl) ?_
  refine OG.ow (OG.iloadN C d3_21 rfl (pc' := 22) rfl) ?_
  refine OG.ow (OG.bipush C d3_22 (z := (8 : Int32)) (by decide) (pc' := 24) rfl) ?_
  refine OG.ow (OG.iushr C d3_24 (pc' := 25) rfl) ?_
  refine OG.ow (OG.sipush C d3_25 (z := (255 : Int32)) (by decide) (pc' := 28) rfl) ?_
  refine OG.ow (OG.iand C d3_28 (pc' := 29) rfl) ?_
  refine OG.ow (OG.i2c C d3_29 (pc' := 30) rfl) ?_
  refine OG.ow (OG.istore C d3_30 (ls' := #[.val (.ref x0), .val (.int x1), .val (.int x2), .val (.int x3), .val (.int x4), .val (.int (x1 &&& (3 : Int32))), .val (.int ((1 : Int32) + ((x1.toUInt32 >>> ((2 : Int32) &&& 31).toUInt32).toInt32 &&& (3 : Int32)))), .val (.int ((x1.toUInt32 >>> ((4 : Int32) &&& 31).toUInt32).toInt32 &&& (3 : Int32))), .val (.int ((x1.toUInt32 >>> ((8 : Int32) &&& 31).toUInt32).toInt32 &&& (255 : Int32)).toUInt32.toUInt16.toUInt32.toInt32), .unset]) rfl (pc' := 32) rfl) ?_
  refine OG.ow (OG.iload C d3_32 rfl (pc' := 34) rfl) ?_
  refine OG.ow (OG.iloadN C d3_34 rfl (pc' := 35) rfl) ?_
  refine OG.ow (OG.iload C d3_35 rfl (pc' := 37) rfl) ?_
  refine OW.callS C (w16 hw) (w17 hw) (w14 hw) (w18 hw) (by decide) (b4 hw ((1 : Int32) + ((x1.toUInt32 >>> ((2 : Int32) &&& 31).toUInt32).toInt32 &&& (3 : Int32))) x3 x4 Z0 (own_n x1)) d3_37 pd_4 rfl (argsL := [(.int ((1 : Int32) + ((x1.toUInt32 >>> ((2 : Int32) &&& 31).toUInt32).toInt32 &&& (3 : Int32)))), (.int x3), (.int x4)]) (rest := []) rfl rfl (W := 0) rfl (by decide) (by decide) (by decide) (by decide) (pc' := 40) rfl ?_
  intro vh1 h1 qh1
  obtain ⟨a2, vsa2, rfl, ga2, Kh1, Aa2, la2, ta2⟩ := qh1
  refine OG.ow (OG.astore C d3_40 rfl (ls' := #[.val (.ref x0), .val (.int x1), .val (.int x2), .val (.int x3), .val (.int x4), .val (.int (x1 &&& (3 : Int32))), .val (.int ((1 : Int32) + ((x1.toUInt32 >>> ((2 : Int32) &&& 31).toUInt32).toInt32 &&& (3 : Int32)))), .val (.int ((x1.toUInt32 >>> ((4 : Int32) &&& 31).toUInt32).toInt32 &&& (3 : Int32))), .val (.int ((x1.toUInt32 >>> ((8 : Int32) &&& 31).toUInt32).toInt32 &&& (255 : Int32)).toUInt32.toUInt16.toUInt32.toInt32), .val (.ref a2)]) rfl (pc' := 42) rfl) ?_
  refine OG.ow (OG.aloadN C d3_42 rfl rfl (pc' := 43) rfl) ?_
  refine OW.ldcC C (w20 hw) (wS hw) (n := 12) (by decide) (by decide) (by decide) (by decide) d3_43 (pc' := 45) rfl ?_
  intro a3 h4 Eh4
  refine OG.ow (OG.iloadN C d3_45 rfl (pc' := 46) rfl) ?_
  have G5 := (Exa.ext Eh4 (E0.keep Kh1))
  have G6 := (Fld.ext Eh4 (Ft.keep Kh1 nin0))
  have G7 := (Fld.ext Eh4 (Fo.keep Kh1 nin0))
  have G8 := (Fld.ext Eh4 (Fs.keep Kh1 nin0))
  have G9 := (Fld.ext Eh4 (Fv.keep Kh1 nin0))
  have G10 := (Fld.ext Eh4 (Fb.keep Kh1 nin0))
  have G11 := (Fld.ext Eh4 (F1.keep Kh1 nin0))
  refine OW.callV C (w28 hw) (w29 hw) (w31 hw) (w30 hw) (w3 hw) (w32 hw) (by decide) G5 (b5 hw x0 (.ref a3) rfl x2 (Nat.le_trans (Nat.le_trans Z0 Kh1.1) Eh4.1) g0  ⟨G5, G6, G7, G8, G9, G10, G11⟩) d3_46 pd_5 rfl (argsL := [(.ref a3), (.int x2)]) (rest := []) rfl rfl (W := 0) rfl (by decide) (by decide) (by decide) (by decide) (pc' := 49) rfl ?_
  intro vh12 h12 qh12
  obtain ⟨rfl, Kh12, Eh12, Ft_h12, Fo_h12, Fs_h12, Fv_h12, Fb_h12, F1_h12⟩ := qh12
  refine OG.ow (OG.iload C d3_49 rfl (pc' := 51) rfl) ?_
  by_cases hc13 : (x1 &&& (3 : Int32)) = (0 : Int32)
  · refine OG.ow (OG.ifNo C d3_51 ((if0 _ _).trans (teq hc13).2) (pc' := 54) rfl) ?_
    refine OG.ow (OG.aloadN C d3_54 rfl rfl (pc' := 55) rfl) ?_
    refine OG.ow (OG.iload C d3_55 rfl (pc' := 57) rfl) ?_
    have G14 := (Sta.kp (Sta.ext Eh4 (Sta.kp S_cs Kh1 all0)) Kh12 (allS (Exa.ext Eh4 (E0.keep Kh1)).pl all0))
    refine OW.callS C (w43 hw) (w44 hw) (w21 hw) (w45 hw) (by decide) (b6 hw ((x1.toUInt32 >>> ((8 : Int32) &&& 31).toUInt32).toInt32 &&& (255 : Int32)).toUInt32.toUInt16.toUInt32.toInt32 (Nat.le_trans (Nat.le_trans (Nat.le_trans Z0 Kh1.1) Eh4.1) Kh12.1) G14 hcs (own_255 _)) d3_57 pd_6 rfl (argsL := [(.int ((x1.toUInt32 >>> ((8 : Int32) &&& 31).toUInt32).toInt32 &&& (255 : Int32)).toUInt32.toUInt16.toUInt32.toInt32)]) (rest := [(.ref x0)]) rfl rfl (W := 1) rfl (by decide) (by decide) (by decide) (by decide) (pc' := 60) rfl ?_
    intro vh15 h15 qh15
    obtain ⟨a16, rfl, ga16, Kh15, Ea16⟩ := qh15
    have G17 := (Sta.kp (Sta.kp (Sta.ext Eh4 (Sta.kp S_LINK_BROKEN Kh1 all0)) Kh12 (allS (Exa.ext Eh4 (E0.keep Kh1)).pl all0)) Kh15 all0)
    have G18 := (Eh12.keep Kh15)
    have G19 := (Ft_h12.keep Kh15 nin0)
    have G20 := (Fo_h12.keep Kh15 nin0)
    have G21 := (Fs_h12.keep Kh15 nin0)
    have G22 := (Fv_h12.keep Kh15 nin0)
    have G23 := (Fb_h12.keep Kh15 nin0)
    have G24 := (F1_h12.keep Kh15 nin0)
    refine OW.callV C (w62 hw) (w63 hw) (w65 hw) (w64 hw) (w3 hw) (w66 hw) (by decide) G18 (b10 hw x0 (.ref a16) rfl (Nat.le_trans (Nat.le_trans (Nat.le_trans (Nat.le_trans Z0 Kh1.1) Eh4.1) Kh12.1) Kh15.1) g0 G17 ⟨G18, G19, G20, G21, G22, G23, G24⟩) d3_60 pd_7 rfl (argsL := [(.ref a16)]) (rest := []) rfl rfl (W := 0) rfl (by decide) (by decide) (by decide) (by decide) (pc' := 63) rfl ?_
    intro vh25 h25 qh25
    obtain ⟨rfl, Kh25, Eh25, Ft_h25, Fo_h25, Fs_h25, Fv_h25, Fb_h25, F1_h25⟩ := qh25
    refine OG.ow (OG.iconst C d3_63 (z := (1 : Int32)) rfl (pc' := 64) rfl) ?_
    refine OW.retI C d3_64 (by decide) (by decide) ?_
    exact ⟨_, rfl, ((((((Keep.refl h [x0]).trans Kh1 all0).ext Eh4).trans Kh12 (allS (Or.inl (List.mem_of_getElem? (i := 0) rfl)) all0)).trans Kh15 all0).trans Kh25 (allS (Or.inl (List.mem_of_getElem? (i := 0) rfl)) all0)), _, _, _, _, _, _, ⟨Eh25, Ft_h25, Fo_h25, Fs_h25, Fv_h25, Fb_h25, F1_h25⟩, Or.inr (Or.inl ⟨rfl, ⟨_, rfl⟩, rfl⟩)⟩
  · refine OG.ow (OG.ifYes C d3_51 ((if0 _ _).trans (feq hc13).2) (by decide) (pc' := 65) (by decide)) ?_
    refine OG.ow (OG.iload C d3_65 rfl (pc' := 67) rfl) ?_
    refine OG.ow (OG.iconst C d3_67 (z := (1 : Int32)) rfl (pc' := 68) rfl) ?_
    by_cases hc26 : (x1 &&& (3 : Int32)) = (1 : Int32)
    · refine OG.ow (OG.icmpNo C d3_68 (teq hc26).2 (pc' := 71) rfl) ?_
      refine OG.ow (OG.aloadN C d3_71 rfl rfl (pc' := 72) rfl) ?_
      refine OG.ow (OG.iload C d3_72 rfl (pc' := 74) rfl) ?_
      refine OG.ow (OG.callS C (w96 hw) (w97 hw) (w14 hw) (w98 hw) (by decide) (b15 hw ((x1.toUInt32 >>> ((4 : Int32) &&& 31).toUInt32).toInt32 &&& (3 : Int32)) (Sta.kp (Sta.ext Eh4 (Sta.kp S_LINKED Kh1 all0)) Kh12 (allS (Exa.ext Eh4 (E0.keep Kh1)).pl all0)) (Sta.kp (Sta.ext Eh4 (Sta.kp S_LINKED_DIFFERS Kh1 all0)) Kh12 (allS (Exa.ext Eh4 (E0.keep Kh1)).pl all0)) (Sta.kp (Sta.ext Eh4 (Sta.kp S_ACCEPTED Kh1 all0)) Kh12 (allS (Exa.ext Eh4 (E0.keep Kh1)).pl all0)) (Sta.kp (Sta.ext Eh4 (Sta.kp S_VARIANT Kh1 all0)) Kh12 (allS (Exa.ext Eh4 (E0.keep Kh1)).pl all0))) d3_74 pd_8 rfl (argsL := [(.int ((x1.toUInt32 >>> ((4 : Int32) &&& 31).toUInt32).toInt32 &&& (3 : Int32)))]) (rest := [(.ref x0)]) rfl rfl (W := 1) rfl (by decide) (by decide) (pc' := 77) rfl) ?_
      refine OG.ow (OG.iloadN C d3_77 rfl (pc' := 78) rfl) ?_
      refine OW.callV C (w101 hw) (w92 hw) (w94 hw) (w93 hw) (w3 hw) (w95 hw) (by decide) Eh12 (b14 hw x0 (.ref (F15 ((x1.toUInt32 >>> ((4 : Int32) &&& 31).toUInt32).toInt32 &&& (3 : Int32)) s_LINKED s_LINKED_DIFFERS s_ACCEPTED s_VARIANT)) rfl x3 (Nat.le_trans (Nat.le_trans (Nat.le_trans Z0 Kh1.1) Eh4.1) Kh12.1) g0  ⟨Eh12, Ft_h12, Fo_h12, Fs_h12, Fv_h12, Fb_h12, F1_h12⟩) d3_78 pd_3 rfl (argsL := [(.ref (F15 ((x1.toUInt32 >>> ((4 : Int32) &&& 31).toUInt32).toInt32 &&& (3 : Int32)) s_LINKED s_LINKED_DIFFERS s_ACCEPTED s_VARIANT)), (.int x3)]) (rest := []) rfl rfl (W := 0) rfl (by decide) (by decide) (by decide) (by decide) (pc' := 81) rfl ?_
      intro vh27 h27 qh27
      obtain ⟨rfl, Kh27, Eh27, Ft_h27, Fo_h27, Fs_h27, Fv_h27, Fb_h27, F1_h27⟩ := qh27
      refine OG.ow (OG.iconst C d3_81 (z := (1 : Int32)) rfl (pc' := 82) rfl) ?_
      refine OW.retI C d3_82 (by decide) (by decide) ?_
      exact ⟨_, rfl, (((((Keep.refl h [x0]).trans Kh1 all0).ext Eh4).trans Kh12 (allS (Or.inl (List.mem_of_getElem? (i := 0) rfl)) all0)).trans Kh27 (allS (Or.inl (List.mem_of_getElem? (i := 0) rfl)) all0)), _, _, _, _, _, _, ⟨Eh27, Ft_h27, Fo_h27, Fs_h27, Fv_h27, Fb_h27, F1_h27⟩, Or.inr (Or.inr ⟨rfl, rfl, by rw [if_neg h3]⟩)⟩
    · refine OG.ow (OG.icmpYes C d3_68 (feq hc26).2 (by decide) (pc' := 83) (by decide)) ?_
      refine OG.ow (OG.iload C d3_83 rfl (pc' := 85) rfl) ?_
      refine OG.ow (OG.iconst C d3_85 (z := (2 : Int32)) rfl (pc' := 86) rfl) ?_
      by_cases hc28 : (x1 &&& (3 : Int32)) = (2 : Int32)
      · refine OG.ow (OG.icmpNo C d3_86 (teq hc28).2 (pc' := 89) rfl) ?_
        refine OG.ow (OG.aloadN C d3_89 rfl rfl (pc' := 90) rfl) ?_
        refine OG.ow (OG.iload C d3_90 rfl (pc' := 92) rfl) ?_
        refine OG.ow (OG.iconst C d3_92 (z := (1 : Int32)) rfl (pc' := 93) rfl) ?_
        refine OG.ow (OG.iand C d3_93 (pc' := 94) rfl) ?_
        refine OG.ow (OG.ite (α := Addr) (P := (((x1.toUInt32 >>> ((4 : Int32) &&& 31).toUInt32).toInt32 &&& (3 : Int32)) &&& (1 : Int32)) = (0 : Int32)) (f := fun v => (mkF m 106 #[.val (.ref x0), .val (.int x1), .val (.int x2), .val (.int x3), .val (.int x4), .val (.int (x1 &&& (3 : Int32))), .val (.int ((1 : Int32) + ((x1.toUInt32 >>> ((2 : Int32) &&& 31).toUInt32).toInt32 &&& (3 : Int32)))), .val (.int ((x1.toUInt32 >>> ((4 : Int32) &&& 31).toUInt32).toInt32 &&& (3 : Int32))), .val (.int ((x1.toUInt32 >>> ((8 : Int32) &&& 31).toUInt32).toInt32 &&& (255 : Int32)).toUInt32.toUInt16.toUInt32.toInt32), .val (.ref a2)] [(.ref v), (.ref x0)])) (x := s_ACCEPTED) (y := s_VARIANT) (fun hc => ?_) (fun hc => ?_)) ?_
        · refine OG.trans (OG.ifNo C d3_94 ((if0 _ _).trans (teq hc).2) (pc' := 97) rfl) ?_
          have G29 := (Sta.kp (Sta.ext Eh4 (Sta.kp S_ACCEPTED Kh1 all0)) Kh12 (allS (Exa.ext Eh4 (E0.keep Kh1)).pl all0))
          refine OG.trans (OG.getS C (host := "") (Or.inl (w84 hw)) Via.refl G29 d3_97 (pc' := 100) rfl) ?_
          refine OG.trans (OG.goto C d3_100 (by decide) (pc' := 106) (by decide)) ?_
          exact OG.refl
        · refine OG.trans (OG.ifYes C d3_94 ((if0 _ _).trans (feq hc).2) (by decide) (pc' := 103) (by decide)) ?_
          have G30 := (Sta.kp (Sta.ext Eh4 (Sta.kp S_VARIANT Kh1 all0)) Kh12 (allS (Exa.ext Eh4 (E0.keep Kh1)).pl all0))
          refine OG.trans (OG.getS C (host := "") (Or.inl (w99 hw)) Via.refl G30 d3_103 (pc' := 106) rfl) ?_
          exact OG.refl
        refine OG.ow (OG.aload C d3_106 rfl rfl (pc' := 108) rfl) ?_
        have G31 := (Sta.kp (Sta.ext Eh4 (Sta.kp S_AMBIGUOUS Kh1 all0)) Kh12 (allS (Exa.ext Eh4 (E0.keep Kh1)).pl all0))
        have G32 := ((Aa2.ext Eh4).keep Kh12 (ninS (Ne.symm (Nat.ne_of_lt (Nat.lt_of_lt_of_le (E0).lt ga2))) nin0))
        refine OW.callV C (w86 hw) (w87 hw) (w89 hw) (w88 hw) (w3 hw) (w90 hw) (by decide) Eh12 (b13 hw x0 (.ref (if (((x1.toUInt32 >>> ((4 : Int32) &&& 31).toUInt32).toInt32 &&& (3 : Int32)) &&& (1 : Int32)) = (0 : Int32) then s_ACCEPTED else s_VARIANT)) rfl a2 (Nat.le_trans (Nat.le_trans (Nat.le_trans Z0 Kh1.1) Eh4.1) Kh12.1) g0 G31 G32 ⟨Eh12, Ft_h12, Fo_h12, Fs_h12, Fv_h12, Fb_h12, F1_h12⟩ la2 ta2 h3 (Ne.symm (Nat.ne_of_lt (Nat.lt_of_lt_of_le (E0).lt ga2)))) d3_108 pd_9 rfl (argsL := [(.ref (if (((x1.toUInt32 >>> ((4 : Int32) &&& 31).toUInt32).toInt32 &&& (3 : Int32)) &&& (1 : Int32)) = (0 : Int32) then s_ACCEPTED else s_VARIANT)), (.ref a2)]) (rest := []) rfl rfl (W := 0) rfl (by decide) (by decide) (by decide) (by decide) (pc' := 111) rfl ?_
        intro vh33 h33 qh33
        obtain ⟨rfl, Kh33, Hh33⟩ := qh33
        refine OG.ow (OG.iload C d3_111 rfl (pc' := 113) rfl) ?_
        refine OW.retI C d3_113 (by decide) (by decide) ?_
        exact ⟨_, rfl, (((((Keep.refl h [x0]).trans Kh1 all0).ext Eh4).trans Kh12 (allS (Or.inl (List.mem_of_getElem? (i := 0) rfl)) all0)).trans Kh33 (allS (Or.inl (List.mem_of_getElem? (i := 0) rfl)) all0)), Hh33⟩
      · refine OG.ow (OG.icmpYes C d3_86 (feq hc28).2 (by decide) (pc' := 114) (by decide)) ?_
        refine OG.ow (OG.aloadN C d3_114 rfl rfl (pc' := 115) rfl) ?_
        have G34 := (Sta.kp (Sta.ext Eh4 (Sta.kp S_UNKNOWN Kh1 all0)) Kh12 (allS (Exa.ext Eh4 (E0.keep Kh1)).pl all0))
        refine OW.callV C (w77 hw) (w78 hw) (w80 hw) (w79 hw) (w3 hw) (w81 hw) (by decide) Eh12 (b12 hw x0  (Nat.le_trans (Nat.le_trans (Nat.le_trans Z0 Kh1.1) Eh4.1) Kh12.1) g0 G34 ⟨Eh12, Ft_h12, Fo_h12, Fs_h12, Fv_h12, Fb_h12, F1_h12⟩) d3_115 pd_10 rfl (argsL := []) (rest := []) rfl rfl (W := 0) rfl (by decide) (by decide) (by decide) (by decide) (pc' := 118) rfl ?_
        intro vh35 h35 qh35
        obtain ⟨rfl, Kh35, Eh35, Ft_h35, Fo_h35, Fs_h35, Fv_h35, Fb_h35, F1_h35⟩ := qh35
        refine OG.ow (OG.iconst C d3_118 (z := (0 : Int32)) rfl (pc' := 119) rfl) ?_
        refine OW.retI C d3_119 (by decide) (by decide) ?_
        exact ⟨_, rfl, (((((Keep.refl h [x0]).trans Kh1 all0).ext Eh4).trans Kh12 (allS (Or.inl (List.mem_of_getElem? (i := 0) rfl)) all0)).trans Kh35 (allS (Or.inl (List.mem_of_getElem? (i := 0) rfl)) all0)), _, _, _, _, _, _, ⟨Eh35, Ft_h35, Fo_h35, Fs_h35, Fv_h35, Fb_h35, F1_h35⟩, Or.inr (Or.inr ⟨rfl, rfl, rfl⟩)⟩
theorem d1_0 : decode prog_43_method_1_code 0 = .ok (.aload_n 0, 1) := by decide +kernel
theorem d1_1 : decode prog_43_method_1_code 1 = .ok (.invokespecial 1, 3) := by decide +kernel
theorem d1_4 : decode prog_43_method_1_code 4 = .ok (.aload_n 0, 1) := by decide +kernel
theorem d1_5 : decode prog_43_method_1_code 5 = .ok (.aload_n 1, 1) := by decide +kernel
theorem d1_6 : decode prog_43_method_1_code 6 = .ok (.putfield 7, 3) := by decide +kernel
theorem d1_9 : decode prog_43_method_1_code 9 = .ok (.return_, 1) := by decide +kernel
set_option maxRecDepth 65536 in
set_option maxHeartbeats 40000000 in
theorem b1 {l : Launch} {Z : State} {a0 : Array Value} (hw : HW a0 Z) (x0 : Addr) {n0 : Nat} {h : Heap} (Z0 : n0 ≤ h.size) (g0 : n0 ≤ x0) (H0 : HLS Z h x0 .null (0 : Int32) .null .null .null (0 : Int32)) (Ff : Fld Z h x0 "com/example/kartoteka/kartoteka/format/HeadingLink" "file" "Lcom/example/kartoteka/kartoteka/format/AuthorityFile;" .null) : OM l Z (⟨"com/example/kartoteka/kartoteka/format/HeadingLink", "<init>", "(Lcom/example/kartoteka/kartoteka/format/AuthorityFile;)V"⟩ : MethodName) prog_43_method_1_code 2 none ⟨1, 0, 0, 12⟩ n0 h #[(.ref x0), .null] (fun v h' => v = none ∧ Keep h h' [x0] ∧ HLS Z h' x0 .null (0 : Int32) .null .null .null (0 : Int32)) 0 0 := by
  refine OM.of_body (ls := #[.val (.ref x0), .val .null]) (plainFor_of_name pn_2) (fun m => by first | (simp [entryFrame, mkF, argsToLocals, Value.category]; done) | rfl) ?_
  intro p e s m below meth c C
  obtain ⟨E0, Ft, Fo, Fs, Fv, Fb, F1⟩ := H0
  refine OG.ow (OG.aloadN C d1_0 rfl rfl (pc' := 1) rfl) ?_
  refine OG.ow (OG.initO C (w7 hw) (w8 hw) (w9 hw) d1_1 rfl (by decide) (W := 0) rfl (by decide) (pc' := 4) rfl) ?_
  refine OG.ow (OG.aloadN C d1_4 rfl rfl (pc' := 5) rfl) ?_
  refine OG.ow (OG.aloadN C d1_5 rfl rfl (pc' := 6) rfl) ?_
  refine OW.putF C (host := "") (Or.inl (w10 hw)) Via.refl Ff E0 (Or.inr ⟨(w11 hw), rfl, rfl⟩) (w2 hw) (ty := (.object "com/example/kartoteka/kartoteka/format/AuthorityFile")) (by decide) rfl rfl g0 d1_6 (pc' := 9) rfl ?_
  intro h1 Wh1
  have G2 := Fld.same Wh1 Ff
  refine OW.retV C d1_9 (by decide) (by decide) ?_
  have G3 := (Exa.wr Wh1 E0)
  have G4 := (Fld.other Wh1 Ft (Or.inr (slot_ne (Or.inl (w34 hw)) (Or.inr (w11 hw)) (by decide) (t := (.object "java/lang/String")) (t' := (.object "com/example/kartoteka/kartoteka/format/AuthorityFile")) (by decide) (by decide))))
  have G5 := (Fld.other Wh1 Fo (Or.inr (slot_ne (Or.inl (w36 hw)) (Or.inr (w11 hw)) (by decide) (t := .int) (t' := (.object "com/example/kartoteka/kartoteka/format/AuthorityFile")) (by decide) (by decide))))
  have G6 := (Fld.other Wh1 Fs (Or.inr (slot_ne (Or.inl (w71 hw)) (Or.inr (w11 hw)) (by decide) (t := (.object "com/example/kartoteka/kartoteka/format/LinkStatus")) (t' := (.object "com/example/kartoteka/kartoteka/format/AuthorityFile")) (by decide) (by decide))))
  have G7 := (Fld.other Wh1 Fv (Or.inr (slot_ne (Or.inl (w40 hw)) (Or.inr (w11 hw)) (by decide) (t := (.array .int)) (t' := (.object "com/example/kartoteka/kartoteka/format/AuthorityFile")) (by decide) (by decide))))
  have G8 := (Fld.other Wh1 Fb (Or.inr (slot_ne (Or.inl (w38 hw)) (Or.inr (w11 hw)) (by decide) (t := (.object "java/lang/CharSequence")) (t' := (.object "com/example/kartoteka/kartoteka/format/AuthorityFile")) (by decide) (by decide))))
  have G9 := (Fld.other Wh1 F1 (Or.inr (slot_ne (Or.inl (w42 hw)) (Or.inr (w11 hw)) (by decide) (t := .int) (t' := (.object "com/example/kartoteka/kartoteka/format/AuthorityFile")) (by decide) (by decide))))
  exact ⟨rfl, ((Keep.refl h [x0]).wr Wh1 (Or.inl (List.mem_of_getElem? (i := 0) rfl))), ⟨G3, G4, G5, G6, G7, G8, G9⟩⟩
theorem own_pos (x : Int32) : ¬ (x &&& (2147483647 : Int32)) < (0 : Int32) := by
  rw [Int32.lt_iff_toInt_lt]
  have e := c_mask x 2147483647 31 (by decide) (by decide)
  have e0 : (0 : Int32).toInt = 0 := by decide
  omega
set_option maxRecDepth 65536 in
set_option maxHeartbeats 40000000 in
theorem b0 {l : Launch} {Z : State} {a0 : Array Value} (hw : HW a0 Z) (x0 : Int32) (x1 : Int32) (x2 : Int32) (x3 : Int32) (x4 : Int32) {s_LINK_BROKEN s_UNKNOWN s_ACCEPTED s_VARIANT s_AMBIGUOUS s_LINKED_DIFFERS s_LINKED : Addr} {cs : Int32}  {n0 : Nat} {h : Heap} (Z0 : n0 ≤ h.size) (S_LINK_BROKEN : Sta Z h "com/example/kartoteka/kartoteka/format/LinkStatus" "LINK_BROKEN" "Lcom/example/kartoteka/kartoteka/format/LinkStatus;" (.ref s_LINK_BROKEN)) (S_UNKNOWN : Sta Z h "com/example/kartoteka/kartoteka/format/LinkStatus" "UNKNOWN" "Lcom/example/kartoteka/kartoteka/format/LinkStatus;" (.ref s_UNKNOWN)) (S_ACCEPTED : Sta Z h "com/example/kartoteka/kartoteka/format/LinkStatus" "ACCEPTED" "Lcom/example/kartoteka/kartoteka/format/LinkStatus;" (.ref s_ACCEPTED)) (S_VARIANT : Sta Z h "com/example/kartoteka/kartoteka/format/LinkStatus" "VARIANT" "Lcom/example/kartoteka/kartoteka/format/LinkStatus;" (.ref s_VARIANT)) (S_AMBIGUOUS : Sta Z h "com/example/kartoteka/kartoteka/format/LinkStatus" "AMBIGUOUS" "Lcom/example/kartoteka/kartoteka/format/LinkStatus;" (.ref s_AMBIGUOUS)) (S_LINKED_DIFFERS : Sta Z h "com/example/kartoteka/kartoteka/format/LinkStatus" "LINKED_DIFFERS" "Lcom/example/kartoteka/kartoteka/format/LinkStatus;" (.ref s_LINKED_DIFFERS)) (S_LINKED : Sta Z h "com/example/kartoteka/kartoteka/format/LinkStatus" "LINKED" "Lcom/example/kartoteka/kartoteka/format/LinkStatus;" (.ref s_LINKED)) (S_cs : Sta Z h "java/lang/String" "COMPACT_STRINGS" "Z" (.int cs)) (hcs : ¬ cs = (0 : Int32)) : OM l Z x code maxLocals ret room_1 n0 h #[(.int x0), (.int x1), (.int x2), (.int x3), (.int x4)] (fun v h' => v = some (.int 1)) 11 57 := by
  refine OM.of_body (ls := #[.val (.int x0), .val (.int x1), .val (.int x2), .val (.int x3), .val (.int x4), .unset, .unset, .unset, .unset, .unset, .unset, .unset]) (plainFor_of_name pn_3) (fun m => by first | (simp [entryFrame, mkF, argsToLocals, Value.category, maxLocals]; done) | rfl) ?_
  intro p e s m below meth c C
  refine OG.ow (OG.iloadN C at_0 rfl (pc' := 1) rfl) ?_
  refine OG.ow (OG.ldcI C (w0 hw) at_1 (pc' := 3) rfl) ?_
  refine OG.ow (OG.iand C at_3 (pc' := 4) rfl) ?_
  refine OG.ow (OG.istore C at_4 (ls' := #[.val (.int x0), .val (.int x1), .val (.int x2), .val (.int x3), .val (.int x4), .val (.int (x2 &&& (2147483647 : Int32))), .unset, .unset, .unset, .unset, .unset, .unset]) rfl (pc' := 6) rfl) ?_
  refine OG.ow (OG.iloadN C at_6 rfl (pc' := 7) rfl) ?_
  refine OG.ow (OG.ldcI C (w0 hw) at_7 (pc' := 9) rfl) ?_
  refine OG.ow (OG.iand C at_9 (pc' := 10) rfl) ?_
  refine OG.ow (OG.istore C at_10 (ls' := #[.val (.int x0), .val (.int x1), .val (.int x2), .val (.int x3), .val (.int x4), .val (.int (x2 &&& (2147483647 : Int32))), .val (.int (x3 &&& (2147483647 : Int32))), .unset, .unset, .unset, .unset, .unset]) rfl (pc' := 12) rfl) ?_
  refine OW.newO C (w1 hw) (w2 hw) (w3 hw) at_12 (by decide) (by decide) (pc' := 15) rfl ?_
  intro a1 h2 ga1 Eh2 Aa1 Da1
  refine OG.ow (OG.dup C at_15 rfl (pc' := 16) rfl) ?_
  refine OG.ow (OG.aconst_null C at_16 (pc' := 17) rfl) ?_
  refine OW.init C (w4 hw) (w5 hw) (w3 hw) (w6 hw) rfl (by decide) (b1 hw a1 (Nat.le_trans Z0 Eh2.1) (Nat.le_trans Z0 (Nat.le_of_eq ga1)) ⟨Aa1, (show Fld Z h2 a1 "com/example/kartoteka/kartoteka/format/HeadingLink" "tag" "Ljava/lang/String;" .null from Da1 (Or.inl (w34 hw)) (ty := (.object "java/lang/String")) (by decide)), (show Fld Z h2 a1 "com/example/kartoteka/kartoteka/format/HeadingLink" "occurrence" "I" (.int (0 : Int32)) from Da1 (Or.inl (w36 hw)) (ty := .int) (by decide)), (show Fld Z h2 a1 "com/example/kartoteka/kartoteka/format/HeadingLink" "status" "Lcom/example/kartoteka/kartoteka/format/LinkStatus;" .null from Da1 (Or.inl (w71 hw)) (ty := (.object "com/example/kartoteka/kartoteka/format/LinkStatus")) (by decide)), (show Fld Z h2 a1 "com/example/kartoteka/kartoteka/format/HeadingLink" "several" "[I" .null from Da1 (Or.inl (w40 hw)) (ty := (.array .int)) (by decide)), (show Fld Z h2 a1 "com/example/kartoteka/kartoteka/format/HeadingLink" "broken" "Ljava/lang/CharSequence;" .null from Da1 (Or.inl (w38 hw)) (ty := (.object "java/lang/CharSequence")) (by decide)), (show Fld Z h2 a1 "com/example/kartoteka/kartoteka/format/HeadingLink" "one" "I" (.int (0 : Int32)) from Da1 (Or.inl (w42 hw)) (ty := .int) (by decide))⟩ (show Fld Z h2 a1 "com/example/kartoteka/kartoteka/format/HeadingLink" "file" "Lcom/example/kartoteka/kartoteka/format/AuthorityFile;" .null from Da1 (Or.inr (w11 hw)) (ty := (.object "com/example/kartoteka/kartoteka/format/AuthorityFile")) (by decide))) at_17 pd_11 rfl (argsL := [.null]) (rest := [(.ref a1)]) rfl rfl (W := 1) rfl (by decide) (by decide) (by decide) (by decide) (pc' := 20) rfl ?_
  intro vh3 h3 qh3
  obtain ⟨rfl, Kh3, Eh3, Ft_h3, Fo_h3, Fs_h3, Fv_h3, Fb_h3, F1_h3⟩ := qh3
  refine OG.ow (OG.astore C at_20 rfl (ls' := #[.val (.int x0), .val (.int x1), .val (.int x2), .val (.int x3), .val (.int x4), .val (.int (x2 &&& (2147483647 : Int32))), .val (.int (x3 &&& (2147483647 : Int32))), .val (.ref a1), .unset, .unset, .unset, .unset]) rfl (pc' := 22) rfl) ?_
  refine OG.ow (OG.aload C at_22 rfl rfl (pc' := 24) rfl) ?_
  refine OG.ow (OG.iloadN C at_24 rfl (pc' := 25) rfl) ?_
  refine OG.ow (OG.iload C at_25 rfl (pc' := 27) rfl) ?_
  refine OG.ow (OG.iload C at_27 rfl (pc' := 29) rfl) ?_
  refine OG.ow (OG.iload C at_29 rfl (pc' := 31) rfl) ?_
  have G4 := (Sta.kp (Sta.ext Eh2 S_LINK_BROKEN) Kh3 (allS Aa1.pl all0))
  have G5 := (Sta.kp (Sta.ext Eh2 S_UNKNOWN) Kh3 (allS Aa1.pl all0))
  have G6 := (Sta.kp (Sta.ext Eh2 S_ACCEPTED) Kh3 (allS Aa1.pl all0))
  have G7 := (Sta.kp (Sta.ext Eh2 S_VARIANT) Kh3 (allS Aa1.pl all0))
  have G8 := (Sta.kp (Sta.ext Eh2 S_AMBIGUOUS) Kh3 (allS Aa1.pl all0))
  have G9 := (Sta.kp (Sta.ext Eh2 S_LINKED_DIFFERS) Kh3 (allS Aa1.pl all0))
  have G10 := (Sta.kp (Sta.ext Eh2 S_LINKED) Kh3 (allS Aa1.pl all0))
  have G11 := (Sta.kp (Sta.ext Eh2 S_cs) Kh3 (allS Aa1.pl all0))
  refine OW.callS C (w12 hw) (w13 hw) (w14 hw) (w15 hw) (by decide) (b3 hw a1 x0 x4 (x2 &&& (2147483647 : Int32)) (x3 &&& (2147483647 : Int32)) (Nat.le_trans (Nat.le_trans Z0 Eh2.1) Kh3.1) (Nat.le_trans Z0 (Nat.le_of_eq ga1)) G4 G5 G6 G7 G8 G9 G10 G11 hcs ⟨Eh3, Ft_h3, Fo_h3, Fs_h3, Fv_h3, Fb_h3, F1_h3⟩ (own_pos _)) at_31 pd_12 rfl (argsL := [(.ref a1), (.int x0), (.int x4), (.int (x2 &&& (2147483647 : Int32))), (.int (x3 &&& (2147483647 : Int32)))]) (rest := []) rfl rfl (W := 0) rfl (by decide) (by decide) (by decide) (by decide) (pc' := 34) rfl ?_
  intro vh12 h12 qh12
  obtain ⟨rh12, rfl, Kh12, Hh12⟩ := qh12
  obtain ⟨tgh12, och12, sth12, svh12, brh12, onh12, Uh12, -⟩ := id Hh12
  refine OG.ow (OG.istore C at_34 (ls' := #[.val (.int x0), .val (.int x1), .val (.int x2), .val (.int x3), .val (.int x4), .val (.int (x2 &&& (2147483647 : Int32))), .val (.int (x3 &&& (2147483647 : Int32))), .val (.ref a1), .val (.int rh12), .unset, .unset, .unset]) rfl (pc' := 36) rfl) ?_
  refine OG.ow (OG.aload C at_36 rfl rfl (pc' := 38) rfl) ?_
  have G13 := (Eh3.keep Kh12)
  refine OG.ow (OG.callV C (w72 hw) (w73 hw) (w75 hw) (w74 hw) (w3 hw) (w76 hw) (by decide) G13 (bA hw a1 (Nat.le_trans (Nat.le_trans (Nat.le_trans Z0 Eh2.1) Kh3.1) Kh12.1) Hh12) at_38 pd_13 rfl (argsL := []) (rest := []) rfl rfl (W := 0) rfl (by decide) (by decide) (pc' := 41) rfl) ?_
  refine OG.ow (OG.istore C at_41 (ls' := #[.val (.int x0), .val (.int x1), .val (.int x2), .val (.int x3), .val (.int x4), .val (.int (x2 &&& (2147483647 : Int32))), .val (.int (x3 &&& (2147483647 : Int32))), .val (.ref a1), .val (.int rh12), .val (.int rh12), .unset, .unset]) rfl (pc' := 43) rfl) ?_
  refine OG.ow (OG.aload C at_43 rfl rfl (pc' := 45) rfl) ?_
  refine OG.ow (OG.iloadN C at_45 rfl (pc' := 46) rfl) ?_
  refine OG.ow (OG.iload C at_46 rfl (pc' := 48) rfl) ?_
  refine OG.ow (OG.iload C at_48 rfl (pc' := 50) rfl) ?_
  refine OG.ow (OG.iload C at_50 rfl (pc' := 52) rfl) ?_
  have G14 := (Sta.kp G4 Kh12 (allS (Aa1.keep Kh3).pl all0))
  have G15 := (Sta.kp G5 Kh12 (allS (Aa1.keep Kh3).pl all0))
  have G16 := (Sta.kp G6 Kh12 (allS (Aa1.keep Kh3).pl all0))
  have G17 := (Sta.kp G7 Kh12 (allS (Aa1.keep Kh3).pl all0))
  have G18 := (Sta.kp G8 Kh12 (allS (Aa1.keep Kh3).pl all0))
  have G19 := (Sta.kp G9 Kh12 (allS (Aa1.keep Kh3).pl all0))
  have G20 := (Sta.kp G10 Kh12 (allS (Aa1.keep Kh3).pl all0))
  have G21 := (Sta.kp G11 Kh12 (allS (Aa1.keep Kh3).pl all0))
  refine OW.callS C (w12 hw) (w13 hw) (w14 hw) (w15 hw) (by decide) (b3 hw a1 x1 x4 (x3 &&& (2147483647 : Int32)) (x2 &&& (2147483647 : Int32)) (Nat.le_trans (Nat.le_trans (Nat.le_trans Z0 Eh2.1) Kh3.1) Kh12.1) (Nat.le_trans Z0 (Nat.le_of_eq ga1)) G14 G15 G16 G17 G18 G19 G20 G21 hcs Uh12 (own_pos _)) at_52 pd_12 rfl (argsL := [(.ref a1), (.int x1), (.int x4), (.int (x3 &&& (2147483647 : Int32))), (.int (x2 &&& (2147483647 : Int32)))]) (rest := []) rfl rfl (W := 0) rfl (by decide) (by decide) (by decide) (by decide) (pc' := 55) rfl ?_
  intro vh22 h22 qh22
  obtain ⟨rh22, rfl, Kh22, Hh22⟩ := qh22
  obtain ⟨tgh22, och22, sth22, svh22, brh22, onh22, Uh22, -⟩ := id Hh22
  refine OG.ow (OG.istore C at_55 (ls' := #[.val (.int x0), .val (.int x1), .val (.int x2), .val (.int x3), .val (.int x4), .val (.int (x2 &&& (2147483647 : Int32))), .val (.int (x3 &&& (2147483647 : Int32))), .val (.ref a1), .val (.int rh12), .val (.int rh12), .val (.int rh22), .unset]) rfl (pc' := 57) rfl) ?_
  refine OG.ow (OG.aload C at_57 rfl rfl (pc' := 59) rfl) ?_
  have G23 := (G13.keep Kh22)
  refine OG.ow (OG.callV C (w72 hw) (w73 hw) (w75 hw) (w74 hw) (w3 hw) (w76 hw) (by decide) G23 (bA hw a1 (Nat.le_trans (Nat.le_trans (Nat.le_trans (Nat.le_trans Z0 Eh2.1) Kh3.1) Kh12.1) Kh22.1) Hh22) at_59 pd_13 rfl (argsL := []) (rest := []) rfl rfl (W := 0) rfl (by decide) (by decide) (pc' := 62) rfl) ?_
  refine OG.ow (OG.istore C at_62 (ls' := #[.val (.int x0), .val (.int x1), .val (.int x2), .val (.int x3), .val (.int x4), .val (.int (x2 &&& (2147483647 : Int32))), .val (.int (x3 &&& (2147483647 : Int32))), .val (.ref a1), .val (.int rh12), .val (.int rh12), .val (.int rh22), .val (.int rh22)]) rfl (pc' := 64) rfl) ?_
  refine OG.ow (OG.iload C at_64 rfl (pc' := 66) rfl) ?_
  refine OG.ow (OG.iload C at_66 rfl (pc' := 68) rfl) ?_
  refine OG.ow (OG.icmpNo C at_68 (teq rfl).2 (pc' := 71) rfl) ?_
  refine OG.ow (OG.iload C at_71 rfl (pc' := 73) rfl) ?_
  refine OG.ow (OG.iload C at_73 rfl (pc' := 75) rfl) ?_
  refine OG.ow (OG.icmpNo C at_75 (teq rfl).2 (pc' := 78) rfl) ?_
  refine OG.ow (OG.iconst C at_78 (z := (1 : Int32)) rfl (pc' := 79) rfl) ?_
  refine OG.ow (OG.goto C at_79 (by decide) (pc' := 83) (by decide)) ?_
  refine OW.retN (t := .boolean) C (by simp) at_83 (by decide) (by decide) ?_
  rfl
set_option maxRecDepth 65536 in
set_option maxHeartbeats 40000000 in
theorem comes_1 {Post : Tables → Env → Array Value → State → Outcome → State → Prop} (hpost : ∀ tb e args s v u, (limb_1_1.after args s (.returned v) u = true ∧ limb_1_2.after args s (.returned v) u = true ∧ True) → ReturnedEndW s (.returned v) u (Jvm.fieldLocs frame_1_writes args s ++ Jvm.arrayLocs frame_1_arrays args s ++ Jvm.staticLocs frame_1_statics s) 24 1152 → Post tb e args s (.returned v) u) :
    ArmFor flags0 classFile x code maxLocals ret World_1 tables_1 room_1 Calls_1 rest_1 Pre_1 Post := by
  intro l hfl _ _ p e ha hc hk s m args below hf hA hF happ hP
  obtain ⟨hcalls, hrest, hpre⟩ := hP
  obtain ⟨-, -, -, hnamed, -, -, -, hat⟩ := (Spec.applies_iff hf).mp happ
  obtain ⟨hg, hn⟩ := and_e (Cond.before_iff.mp (show (Jvm.Cond.and given_1 narrow_1).before args s = true from hpre))
  obtain ⟨h1, q0⟩ := and_e hg
  obtain ⟨k0, q1⟩ := and_e q0
  obtain ⟨k1, q2⟩ := and_e q1
  obtain ⟨k2, q3⟩ := and_e q2
  obtain ⟨k3, q4⟩ := and_e q3
  obtain ⟨u0, u1, u2, u3, u4, rfl⟩ : ∃ u0 u1 u2 u3 u4 : Value, args = #[u0, u1, u2, u3, u4] := by
    have hs : args.size = 5 := by simpa [Cond.value, given_1] using h1
    obtain ⟨L⟩ := args
    match L, hs with
    | [u0, u1, u2, u3, u4], _ => exact ⟨u0, u1, u2, u3, u4, rfl⟩
  have hw : HW #[u0, u1, u2, u3, u4] s := fun d (hd : d ∈ tables_1) => atoms_spec (ws := Jvm.Cond.code x code maxLocals ret :: tables_1) hat d (List.mem_cons_of_mem _ hd)
  have hfit : Fit s := fun {y c} hc i hi => by
    obtain ⟨ha, rfl⟩ := Array.getElem?_eq_some_iff.mp hc
    have q := List.all_eq_true.mp ((Array.all_eq_true_iff_forall_mem.mp hF) _ (Array.getElem_mem ha)) i (List.mem_range.mpr hi)
    simpa [Array.getElem?_eq_getElem hi] using q
  obtain ⟨i0, e0⟩ := is_v k0
  obtain rfl : u0 = (.int i0) := Option.some.inj e0
  obtain ⟨i1, e1⟩ := is_v k1
  obtain rfl : u1 = (.int i1) := Option.some.inj e1
  obtain ⟨i2, e2⟩ := is_v k2
  obtain rfl : u2 = (.int i2) := Option.some.inj e2
  obtain ⟨i3, e3⟩ := is_v k3
  obtain rfl : u3 = (.int i3) := Option.some.inj e3
  obtain ⟨i4, e4⟩ := is_v q4
  obtain rfl : u4 = (.int i4) := Option.some.inj e4
  obtain ⟨hsets, hown0⟩ := atoms_of _ (rest_1_c_eq ▸ (show rest_1_c.before _ s = true from hrest))
  have ncs := not_v (Cond.before_iff.mp (hsets _ (List.mem_of_getElem? (i := 2) rfl)))
  obtain ⟨cs, ecs⟩ := is_v (Cond.before_iff.mp (hsets _ (List.mem_of_getElem? (i := 1) rfl)))
  have Scs : Sta s s.heap "java/lang/String" "COMPACT_STRINGS" "Z" (.int cs) := Sta.start ecs (Or.inl (hsets _ (List.mem_of_getElem? (i := 0) rfl)))
  have hcs : ¬ (cs = (0 : Int32)) := gotF (Cond.eq_ints ecs (Term.int_eval (0))) ncs
  obtain ⟨m0, mr0⟩ := and_e hn
  obtain ⟨m1, mr1⟩ := and_e mr0
  obtain ⟨m2, mr2⟩ := and_e mr1
  obtain ⟨m3, mr3⟩ := and_e mr2
  obtain ⟨m4, mr4⟩ := and_e mr3
  obtain ⟨m5, m6⟩ := and_e mr4
  obtain ⟨s_LINK_BROKEN, r_LINK_BROKEN⟩ := exa_v m0
  obtain ⟨s_UNKNOWN, r_UNKNOWN⟩ := exa_v m1
  obtain ⟨s_ACCEPTED, r_ACCEPTED⟩ := exa_v m2
  obtain ⟨s_VARIANT, r_VARIANT⟩ := exa_v m3
  obtain ⟨s_AMBIGUOUS, r_AMBIGUOUS⟩ := exa_v m4
  obtain ⟨s_LINKED_DIFFERS, r_LINKED_DIFFERS⟩ := exa_v m5
  obtain ⟨s_LINKED, r_LINKED⟩ := exa_v m6
  obtain ⟨n, o, h1, h2, h3, _, L, rfl, ⟨hv, N⟩, hq⟩ := b0 (l := l) hw i0 i1 i2 i3 i4 (Nat.le_refl _) (Sta.start r_LINK_BROKEN (Or.inr ⟨(w68 hw), (w69 hw)⟩)) (Sta.start r_UNKNOWN (Or.inr ⟨(w68 hw), (w83 hw)⟩)) (Sta.start r_ACCEPTED (Or.inr ⟨(w68 hw), (w85 hw)⟩)) (Sta.start r_VARIANT (Or.inr ⟨(w68 hw), (w100 hw)⟩)) (Sta.start r_AMBIGUOUS (Or.inr ⟨(w68 hw), (w103 hw)⟩)) (Sta.start r_LINKED_DIFFERS (Or.inr ⟨(w68 hw), (w105 hw)⟩)) (Sta.start r_LINKED (Or.inr ⟨(w68 hw), (w107 hw)⟩)) Scs hcs (n0 := s.heap.size) (h := s.heap) tables_1 p e ha hc hk s m _ below hf ((Spec.applies_iff_loose hf).mp happ).1 ⟨rfl, State.Warmed39.refl s, rfl⟩ trivial
  subst hv
  refine ⟨n, _, h1, h2, h3, hpost _ _ _ _ _ _ ⟨Cond.after_iff.mpr rfl, Cond.after_iff.mpr (eq_i res_at (Term.int_eval (1)) rfl), trivial⟩ ⟨hq.1, hq.2.1, hq.2.2.1, (hq.2.2.2.sift fun y hy => Or.inr (N y hy)).mono (by decide) (by decide)⟩⟩
theorem main_1_1 : Claimed_1_1 := comes_1 fun _ _ _ _ _ _ h hF => ⟨h.1, hF⟩
theorem main_1_2 : Claimed_1_2 := comes_1 fun _ _ _ _ _ _ h hF => ⟨h.2.1, hF⟩
end Jvm.Pilot.@@N@@
namespace Jvm.Pilot.@@N@@
open Jvm Jvm.ClassFile Sem Op Lib Jvm.Free Jvm.Stand Jvm.Pilot.@@N@@.Jvm.D
/-! MADE BY PROGRAM (witnessworld.py) out of the Statement's table words and the real class files: 19 classes; the members and pool entries that the words name. The judged class is class 1, her method 4. -/
namespace start1
open Jvm.ClassFile
def u (s : String) : CpInfo := .utf8 (stringToUtf16 s)
/-- a pool by its gaps: so many unusable entries, then the entry; so many at the end -/
def gap : Nat → List CpInfo → List CpInfo
  | 0, r => r
  | n + 1, r => .unusable :: gap n r
def poolList (es : List (Nat × CpInfo)) (last : Nat) : List CpInfo := es.foldr (fun e r => gap e.1 (e.2 :: r)) (gap last [])
def pool (es : List (Nat × CpInfo)) (last : Nat) : Array CpInfo := ⟨poolList es last⟩
def fileOf (pool : Array CpInfo) (this : Nat) (attrs : Array Attribute := #[]) (ms : Array MethodInfo := #[]) (fl : Nat := 33) (sup : Nat := 0) (ifs : Array Nat := #[]) (fds : Array FieldInfo := #[]) : ClassFile where
  minorVersion := 0
  majorVersion := 65
  constantPool := pool
  accessFlags := fl
  thisClass := this
  superClass := sup
  interfaces := ifs
  fields := fds
  methods := ms
  attributes := attrs
def plain (name : String) (sup : Option ClassId) : Class where
  name := name
  kind := .ordinary
  loader := none
  accessFlags := 33
  super := sup
  interfaces := #[]
  cf := none
  fields := #[]
  methods := #[]
  instanceTypes := #[]
  staticTypes := #[]
  resolved := #[]
  callSites := []
  init := .initialized
  statics := none
  mirror := none

def pool0 : Array CpInfo := pool [(5, u "<init>"), (0, u "()V"), (1, .class_ 10), (1, u "java/lang/Object")] 113

def k0c0 : Code := { maxStack := 0, maxLocals := 1, code := object_method_1_code, exceptionTable := #[], attributes := #[] }
def k0m0 : Method := { name := "<init>", desc := "()V", sig := { parameters := [], returnType := none }, accessFlags := 1, code := some k0c0 }
/-- java/lang/Object -/
def k0 : Class := { plain "java/lang/Object" none with
  accessFlags := 33
  interfaces := #[]
  cf := some (fileOf pool0 8 #[] #[{ accessFlags := 1, nameIndex := 5, descriptorIndex := 6, attributes := #[] }] 33 0 #[] #[])
  fields := #[]
  methods := #[k0m0]
  instanceTypes := #[]
  staticTypes := #[]
  resolved := Array.replicate 124 none
  statics := none }

def pool1 : Array CpInfo := pool [(2, .class_ 4), (1, u "java/lang/Object"), (0, u "<init>"), (0, u "()V"), (0, .fieldref 8 9), (0, .class_ 10), (0, .nameAndType 11 12), (0, u "com/example/kartoteka/kartoteka/format/LinkStatus"), (0, u "LINKED"), (0, u "Lcom/example/kartoteka/kartoteka/format/LinkStatus;"), (0, .fieldref 8 14), (0, .nameAndType 15 12), (0, u "LINKED_DIFFERS"), (0, .fieldref 8 17), (0, .nameAndType 18 12), (0, u "ACCEPTED"), (0, .fieldref 8 20), (0, .nameAndType 21 12), (0, u "VARIANT"), (0, .methodref 23 24), (0, .class_ 25), (0, .nameAndType 26 27), (0, u "com/example/kartoteka/kartoteka/format/HeadingLinkAuthoritiesPinLaw"), (0, u "indexes"), (0, u "(III)[I"), (0, .string 29), (0, u "700"), (0, .methodref 31 32), (0, .class_ 33), (0, .nameAndType 34 35), (0, u "com/example/kartoteka/kartoteka/format/HeadingLink"), (0, u "heading"), (0, u "(Ljava/lang/String;I)V"), (0, .methodref 37 38), (0, .class_ 39), (0, .nameAndType 40 41), (0, u "java/lang/String"), (0, u "valueOf"), (0, u "(C)Ljava/lang/String;"), (0, .methodref 31 43), (0, .nameAndType 44 45), (0, u "broken"), (0, u "(Ljava/lang/CharSequence;)V"), (0, .methodref 23 47), (0, .nameAndType 48 49), (0, u "single"), (0, u "(I)Lcom/example/kartoteka/kartoteka/format/LinkStatus;"), (0, .methodref 31 51), (0, .nameAndType 52 53), (0, u "found"), (0, u "(Lcom/example/kartoteka/kartoteka/format/LinkStatus;I)V"), (0, .methodref 31 55), (0, .nameAndType 52 56), (0, u "(Lcom/example/kartoteka/kartoteka/format/LinkStatus;[I)V"), (0, .methodref 31 58), (0, .nameAndType 59 6), (0, u "unknown"), (0, .integer 2147483647), (0, .methodref 31 62), (0, .nameAndType 5 63), (0, u "(Lcom/example/kartoteka/kartoteka/format/AuthorityFile;)V"), (0, .methodref 23 65), (0, .nameAndType 66 67), (0, u "step"), (0, u "(Lcom/example/kartoteka/kartoteka/format/HeadingLink;IIII)I"), (0, .methodref 31 69), (0, .nameAndType 70 71), (0, u "authorities"), (0, u "()I"), (5, u "law"), (0, u "(IIIII)Z")] 2

def k1m0 : Method := { name := "<init>", desc := "()V", sig := { parameters := [], returnType := none }, accessFlags := 2, code := none }
def k1c1 : Code := { maxStack := 4, maxLocals := 3, code := method_2_code, exceptionTable := #[], attributes := #[] }
def k1m1 : Method := { name := "indexes", desc := "(III)[I", sig := { parameters := [.int, .int, .int], returnType := some (.array .int) }, accessFlags := 10, code := some k1c1 }
def k1c2 : Code := { maxStack := 2, maxLocals := 1, code := method_3_code, exceptionTable := #[], attributes := #[] }
def k1m2 : Method := { name := "single", desc := "(I)Lcom/example/kartoteka/kartoteka/format/LinkStatus;", sig := { parameters := [.int], returnType := some (.object "com/example/kartoteka/kartoteka/format/LinkStatus") }, accessFlags := 10, code := some k1c2 }
def k1c3 : Code := { maxStack := 3, maxLocals := 10, code := method_4_code, exceptionTable := #[], attributes := #[] }
def k1m3 : Method := { name := "step", desc := "(Lcom/example/kartoteka/kartoteka/format/HeadingLink;IIII)I", sig := { parameters := [(.object "com/example/kartoteka/kartoteka/format/HeadingLink"), .int, .int, .int, .int], returnType := some .int }, accessFlags := 10, code := some k1c3 }
def k1c4 : Code := { maxStack := 5, maxLocals := 12, code := code, exceptionTable := #[], attributes := #[] }
def k1m4 : Method := { name := "law", desc := "(IIIII)Z", sig := { parameters := [.int, .int, .int, .int, .int], returnType := some .boolean }, accessFlags := 9, code := some k1c4 }
/-- com/example/kartoteka/kartoteka/format/HeadingLinkAuthoritiesPinLaw -/
def k1 : Class := { plain "com/example/kartoteka/kartoteka/format/HeadingLinkAuthoritiesPinLaw" (some 0) with
  accessFlags := 49
  interfaces := #[]
  cf := some (fileOf pool1 23 #[] #[{ accessFlags := 2, nameIndex := 5, descriptorIndex := 6, attributes := #[] }, { accessFlags := 10, nameIndex := 26, descriptorIndex := 27, attributes := #[] }, { accessFlags := 10, nameIndex := 48, descriptorIndex := 49, attributes := #[] }, { accessFlags := 10, nameIndex := 66, descriptorIndex := 67, attributes := #[] }, { accessFlags := 9, nameIndex := 77, descriptorIndex := 78, attributes := #[] }] 49 2 #[] #[])
  fields := #[]
  methods := #[k1m0, k1m1, k1m2, k1m3, k1m4]
  instanceTypes := #[]
  staticTypes := #[]
  resolved := Array.replicate 81 none
  statics := none }

def pool2 : Array CpInfo := pool [(1, .methodref 2 3), (0, .class_ 4), (0, .nameAndType 5 6), (0, u "java/lang/Object"), (0, u "<init>"), (0, u "()V"), (0, .fieldref 8 9), (0, .class_ 10), (0, .nameAndType 11 12), (0, u "com/example/kartoteka/kartoteka/format/HeadingLink"), (0, u "file"), (0, u "Lcom/example/kartoteka/kartoteka/format/AuthorityFile;"), (0, .fieldref 8 14), (0, .nameAndType 15 16), (0, u "tag"), (0, u "Ljava/lang/String;"), (0, .fieldref 8 18), (0, .nameAndType 19 20), (0, u "occurrence"), (0, u "I"), (0, .fieldref 8 22), (0, .nameAndType 23 24), (0, u "status"), (0, u "Lcom/example/kartoteka/kartoteka/format/LinkStatus;"), (0, .fieldref 8 26), (0, .nameAndType 27 28), (0, u "several"), (0, u "[I"), (0, .fieldref 8 30), (0, .nameAndType 31 32), (0, u "broken"), (0, u "Ljava/lang/CharSequence;"), (0, .fieldref 8 34), (0, .nameAndType 35 20), (0, u "one"), (16, .fieldref 53 54), (0, .class_ 55), (0, .nameAndType 56 24), (0, u "com/example/kartoteka/kartoteka/format/LinkStatus"), (0, u "LINK_BROKEN"), (0, .methodref 8 58), (0, .nameAndType 59 60), (0, u "found"), (0, u "(Lcom/example/kartoteka/kartoteka/format/LinkStatus;I)V"), (0, .fieldref 53 62), (0, .nameAndType 63 24), (0, u "AMBIGUOUS"), (0, .fieldref 53 65), (0, .nameAndType 66 24), (0, u "UNKNOWN"), (0, u "(Lcom/example/kartoteka/kartoteka/format/AuthorityFile;)V"), (3, u "()I"), (1, u "authorities"), (5, u "heading"), (0, u "(Ljava/lang/String;I)V"), (0, u "(Ljava/lang/CharSequence;)V"), (0, u "(Lcom/example/kartoteka/kartoteka/format/LinkStatus;[I)V"), (0, u "unknown")] 2

def k2c0 : Code := { maxStack := 2, maxLocals := 2, code := prog_43_method_1_code, exceptionTable := #[], attributes := #[] }
def k2m0 : Method := { name := "<init>", desc := "(Lcom/example/kartoteka/kartoteka/format/AuthorityFile;)V", sig := { parameters := [(.object "com/example/kartoteka/kartoteka/format/AuthorityFile")], returnType := none }, accessFlags := 0, code := some k2c0 }
def k2c1 : Code := { maxStack := 1, maxLocals := 1, code := prog_43_method_5_code, exceptionTable := #[], attributes := #[] }
def k2m1 : Method := { name := "authorities", desc := "()I", sig := { parameters := [], returnType := some .int }, accessFlags := 1, code := some k2c1 }
def k2c2 : Code := { maxStack := 2, maxLocals := 3, code := prog_43_method_8_code, exceptionTable := #[], attributes := #[] }
def k2m2 : Method := { name := "heading", desc := "(Ljava/lang/String;I)V", sig := { parameters := [(.object "java/lang/String"), .int], returnType := none }, accessFlags := 0, code := some k2c2 }
def k2c3 : Code := { maxStack := 2, maxLocals := 2, code := prog_43_method_9_code, exceptionTable := #[], attributes := #[] }
def k2m3 : Method := { name := "broken", desc := "(Ljava/lang/CharSequence;)V", sig := { parameters := [(.object "java/lang/CharSequence")], returnType := none }, accessFlags := 0, code := some k2c3 }
def k2c4 : Code := { maxStack := 2, maxLocals := 3, code := prog_43_method_10_code, exceptionTable := #[], attributes := #[] }
def k2m4 : Method := { name := "found", desc := "(Lcom/example/kartoteka/kartoteka/format/LinkStatus;I)V", sig := { parameters := [(.object "com/example/kartoteka/kartoteka/format/LinkStatus"), .int], returnType := none }, accessFlags := 0, code := some k2c4 }
def k2c5 : Code := { maxStack := 4, maxLocals := 3, code := prog_43_method_11_code, exceptionTable := #[], attributes := #[] }
def k2m5 : Method := { name := "found", desc := "(Lcom/example/kartoteka/kartoteka/format/LinkStatus;[I)V", sig := { parameters := [(.object "com/example/kartoteka/kartoteka/format/LinkStatus"), (.array .int)], returnType := none }, accessFlags := 0, code := some k2c5 }
def k2c6 : Code := { maxStack := 2, maxLocals := 1, code := prog_43_method_12_code, exceptionTable := #[], attributes := #[] }
def k2m6 : Method := { name := "unknown", desc := "()V", sig := { parameters := [], returnType := none }, accessFlags := 0, code := some k2c6 }
/-- com/example/kartoteka/kartoteka/format/HeadingLink -/
def k2 : Class := { plain "com/example/kartoteka/kartoteka/format/HeadingLink" (some 0) with
  accessFlags := 49
  interfaces := #[]
  cf := some (fileOf pool2 8 #[] #[{ accessFlags := 0, nameIndex := 5, descriptorIndex := 67, attributes := #[] }, { accessFlags := 1, nameIndex := 73, descriptorIndex := 71, attributes := #[] }, { accessFlags := 0, nameIndex := 79, descriptorIndex := 80, attributes := #[] }, { accessFlags := 0, nameIndex := 31, descriptorIndex := 81, attributes := #[] }, { accessFlags := 0, nameIndex := 59, descriptorIndex := 60, attributes := #[] }, { accessFlags := 0, nameIndex := 59, descriptorIndex := 82, attributes := #[] }, { accessFlags := 0, nameIndex := 83, descriptorIndex := 6, attributes := #[] }] 49 2 #[] #[{ accessFlags := 18, nameIndex := 11, descriptorIndex := 12, attributes := #[] }, { accessFlags := 2, nameIndex := 15, descriptorIndex := 16, attributes := #[] }, { accessFlags := 2, nameIndex := 19, descriptorIndex := 20, attributes := #[] }, { accessFlags := 2, nameIndex := 23, descriptorIndex := 24, attributes := #[] }, { accessFlags := 2, nameIndex := 31, descriptorIndex := 32, attributes := #[] }, { accessFlags := 2, nameIndex := 27, descriptorIndex := 28, attributes := #[] }, { accessFlags := 2, nameIndex := 35, descriptorIndex := 20, attributes := #[] }])
  fields := #[{ name := "file", type := (.object "com/example/kartoteka/kartoteka/format/AuthorityFile"), accessFlags := 18, slot := 0, constantValue := 0 }, { name := "tag", type := (.object "java/lang/String"), accessFlags := 2, slot := 1, constantValue := 0 }, { name := "occurrence", type := .int, accessFlags := 2, slot := 2, constantValue := 0 }, { name := "status", type := (.object "com/example/kartoteka/kartoteka/format/LinkStatus"), accessFlags := 2, slot := 3, constantValue := 0 }, { name := "broken", type := (.object "java/lang/CharSequence"), accessFlags := 2, slot := 4, constantValue := 0 }, { name := "several", type := (.array .int), accessFlags := 2, slot := 5, constantValue := 0 }, { name := "one", type := .int, accessFlags := 2, slot := 6, constantValue := 0 }]
  methods := #[k2m0, k2m1, k2m2, k2m3, k2m4, k2m5, k2m6]
  instanceTypes := #[(.object "com/example/kartoteka/kartoteka/format/AuthorityFile"), (.object "java/lang/String"), .int, (.object "com/example/kartoteka/kartoteka/format/LinkStatus"), (.object "java/lang/CharSequence"), (.array .int), .int]
  staticTypes := #[]
  resolved := Array.replicate 86 none
  statics := none }

def pool3 : Array CpInfo := pool [(1, .class_ 2), (0, u "java/io/Serializable"), (0, .class_ 4), (0, u "java/lang/Object")] 2

/-- java/io/Serializable -/
def k3 : Class := { plain "java/io/Serializable" (some 0) with
  accessFlags := 1537
  interfaces := #[]
  cf := some (fileOf pool3 1 #[] #[] 1537 3 #[] #[])
  fields := #[]
  methods := #[]
  instanceTypes := #[]
  staticTypes := #[]
  resolved := Array.replicate 7 none
  statics := none }

def pool4 : Array CpInfo := pool [(1, .class_ 2), (0, u "java/lang/Comparable"), (0, .class_ 4), (0, u "java/lang/Object")] 7

/-- java/lang/Comparable -/
def k4 : Class := { plain "java/lang/Comparable" (some 0) with
  accessFlags := 1537
  interfaces := #[]
  cf := some (fileOf pool4 1 #[] #[] 1537 3 #[] #[])
  fields := #[]
  methods := #[]
  instanceTypes := #[]
  staticTypes := #[]
  resolved := Array.replicate 12 none
  statics := none }

def pool5 : Array CpInfo := pool [(2, .class_ 4), (1, u "java/lang/CharSequence"), (42, .class_ 48), (0, u "java/lang/CharSequence$1CodePointIterator"), (10, .class_ 60), (0, u "java/lang/CharSequence$1CharIterator"), (5, .class_ 67), (0, u "java/lang/Object")] 63

/-- java/lang/CharSequence -/
def k5 : Class := { plain "java/lang/CharSequence" (some 0) with
  accessFlags := 1537
  interfaces := #[]
  cf := some (fileOf pool5 2 #[.nestMembers #[47, 59]] #[] 1537 66 #[] #[])
  fields := #[]
  methods := #[]
  instanceTypes := #[]
  staticTypes := #[]
  resolved := Array.replicate 131 none
  statics := none }

def pool6 : Array CpInfo := pool [(1, .class_ 2), (0, u "java/lang/constant/Constable"), (0, .class_ 4), (0, u "java/lang/Object")] 6

/-- java/lang/constant/Constable -/
def k6 : Class := { plain "java/lang/constant/Constable" (some 0) with
  accessFlags := 1537
  interfaces := #[]
  cf := some (fileOf pool6 1 #[] #[] 1537 3 #[] #[])
  fields := #[]
  methods := #[]
  instanceTypes := #[]
  staticTypes := #[]
  resolved := Array.replicate 11 none
  statics := none }

def pool7 : Array CpInfo := pool [(1, .class_ 2), (0, u "java/lang/constant/ConstantDesc"), (0, .class_ 4), (0, u "java/lang/Object")] 32

/-- java/lang/constant/ConstantDesc -/
def k7 : Class := { plain "java/lang/constant/ConstantDesc" (some 0) with
  accessFlags := 1537
  interfaces := #[]
  cf := some (fileOf pool7 1 #[] #[] 1537 3 #[] #[])
  fields := #[]
  methods := #[]
  instanceTypes := #[]
  staticTypes := #[]
  resolved := Array.replicate 37 none
  statics := none }

def pool8 : Array CpInfo := pool [(1, .methodref 2 3), (0, .class_ 4), (0, .nameAndType 5 6), (0, u "java/lang/Object"), (0, u "<init>"), (0, u "()V"), (2, .fieldref 10 11), (0, .class_ 12), (0, .nameAndType 13 14), (0, u "java/lang/String"), (0, u "value"), (0, u "[B"), (0, .fieldref 10 16), (0, .nameAndType 17 18), (0, u "coder"), (0, u "B"), (2, u "hash"), (0, u "I"), (2, u "hashIsZero"), (0, u "Z"), (11, .fieldref 10 39), (0, .nameAndType 40 26), (0, u "COMPACT_STRINGS"), (12, u "toBytes"), (53, .class_ 109), (1, u "java/lang/StringLatin1"), (99, .methodref 10 210), (0, .nameAndType 5 211), (0, u "([BB)V"), (157, u "(C)Z"), (205, .class_ 576), (0, u "java/lang/CharSequence"), (22, u "CASE_INSENSITIVE_ORDER"), (0, u "Ljava/util/Comparator;"), (181, u "valueOf"), (0, u "(C)Ljava/lang/String;"), (231, .methodref 107 1016), (0, .nameAndType 1017 369), (0, u "canEncode"), (0, .methodref 107 1019), (0, .nameAndType 53 1020), (0, u "(C)[B"), (80, u "serialPersistentFields"), (0, u "[Ljava/io/ObjectStreamField;"), (0, .class_ 1104), (0, u "java/lang/String$CaseInsensitiveComparator"), (1, .class_ 1107), (0, u "java/io/Serializable"), (0, .class_ 1109), (0, u "java/lang/Comparable"), (0, .class_ 1111), (0, u "java/lang/constant/Constable"), (0, .class_ 1113), (0, u "java/lang/constant/ConstantDesc"), (2, u "serialVersionUID"), (0, u "J"), (3, u "REPL"), (0, u "C"), (2, u "LATIN1"), (1, u "UTF16")] 323

def k8m0 : Method := { name := "<init>", desc := "()V", sig := { parameters := [], returnType := none }, accessFlags := 1, code := none }
def k8c1 : Code := { maxStack := 4, maxLocals := 1, code := jdk_42_method_139_code, exceptionTable := #[], attributes := #[] }
def k8m1 : Method := { name := "valueOf", desc := "(C)Ljava/lang/String;", sig := { parameters := [.char], returnType := some (.object "java/lang/String") }, accessFlags := 9, code := some k8c1 }
def k8c2 : Code := { maxStack := 2, maxLocals := 3, code := jdk_42_method_151_code, exceptionTable := #[], attributes := #[] }
def k8m2 : Method := { name := "<init>", desc := "([BB)V", sig := { parameters := [(.array .byte), .byte], returnType := none }, accessFlags := 0, code := some k8c2 }
/-- java/lang/String -/
def k8 : Class := { plain "java/lang/String" (some 0) with
  accessFlags := 49
  interfaces := #[3, 4, 5, 6, 7]
  cf := some (fileOf pool8 10 #[.nestMembers #[1103]] #[{ accessFlags := 1, nameIndex := 5, descriptorIndex := 6, attributes := #[] }, { accessFlags := 9, nameIndex := 782, descriptorIndex := 783, attributes := #[] }, { accessFlags := 0, nameIndex := 5, descriptorIndex := 211, attributes := #[] }] 49 2 #[1106, 1108, 575, 1110, 1112] #[{ accessFlags := 18, nameIndex := 13, descriptorIndex := 14, attributes := #[] }, { accessFlags := 18, nameIndex := 17, descriptorIndex := 18, attributes := #[] }, { accessFlags := 2, nameIndex := 21, descriptorIndex := 22, attributes := #[] }, { accessFlags := 2, nameIndex := 25, descriptorIndex := 26, attributes := #[] }, { accessFlags := 26, nameIndex := 1116, descriptorIndex := 1117, attributes := #[] }, { accessFlags := 24, nameIndex := 40, descriptorIndex := 26, attributes := #[] }, { accessFlags := 26, nameIndex := 1101, descriptorIndex := 1102, attributes := #[] }, { accessFlags := 26, nameIndex := 1121, descriptorIndex := 1122, attributes := #[] }, { accessFlags := 25, nameIndex := 599, descriptorIndex := 600, attributes := #[] }, { accessFlags := 24, nameIndex := 1125, descriptorIndex := 18, attributes := #[] }, { accessFlags := 24, nameIndex := 1127, descriptorIndex := 18, attributes := #[] }])
  fields := #[{ name := "value", type := (.array .byte), accessFlags := 18, slot := 0, constantValue := 0 }, { name := "coder", type := .byte, accessFlags := 18, slot := 1, constantValue := 0 }, { name := "hash", type := .int, accessFlags := 2, slot := 2, constantValue := 0 }, { name := "hashIsZero", type := .boolean, accessFlags := 2, slot := 3, constantValue := 0 }, { name := "serialVersionUID", type := .long, accessFlags := 26, slot := 0, constantValue := 0 }, { name := "COMPACT_STRINGS", type := .boolean, accessFlags := 24, slot := 1, constantValue := 0 }, { name := "serialPersistentFields", type := (.array (.object "java/io/ObjectStreamField")), accessFlags := 26, slot := 2, constantValue := 0 }, { name := "REPL", type := .char, accessFlags := 26, slot := 3, constantValue := 0 }, { name := "CASE_INSENSITIVE_ORDER", type := (.object "java/util/Comparator"), accessFlags := 25, slot := 4, constantValue := 0 }, { name := "LATIN1", type := .byte, accessFlags := 24, slot := 5, constantValue := 0 }, { name := "UTF16", type := .byte, accessFlags := 24, slot := 6, constantValue := 0 }]
  methods := #[k8m0, k8m1, k8m2]
  instanceTypes := #[(.array .byte), .byte, .int, .boolean]
  staticTypes := #[.long, .boolean, (.array (.object "java/io/ObjectStreamField")), .char, (.object "java/util/Comparator"), .byte, .byte]
  resolved := Array.replicate 1451 none
  statics := some 0 }

def pool9 : Array CpInfo := pool [(4, .class_ 6), (1, u "java/lang/Object"), (0, u "<init>"), (0, u "()V"), (5, .class_ 16), (1, u "java/lang/StringLatin1"), (73, u "canEncode"), (14, u "(C)Z"), (15, u "$assertionsDisabled"), (0, u "Z"), (98, .class_ 223), (1, u "java/lang/StringLatin1$LinesSpliterator"), (156, u "toBytes"), (1, u "(C)[B"), (7, .class_ 391), (0, u "java/lang/StringLatin1$CharsSpliterator")] 3

def k9m0 : Method := { name := "<init>", desc := "()V", sig := { parameters := [], returnType := none }, accessFlags := 0, code := none }
def k9c1 : Code := { maxStack := 2, maxLocals := 1, code := jdk_43_method_3_code, exceptionTable := #[], attributes := #[] }
def k9m1 : Method := { name := "canEncode", desc := "(C)Z", sig := { parameters := [.char], returnType := some .boolean }, accessFlags := 9, code := some k9c1 }
def k9c2 : Code := { maxStack := 4, maxLocals := 1, code := jdk_43_method_46_code, exceptionTable := #[], attributes := #[] }
def k9m2 : Method := { name := "toBytes", desc := "(C)[B", sig := { parameters := [.char], returnType := some (.array .byte) }, accessFlags := 9, code := some k9c2 }
/-- java/lang/StringLatin1 -/
def k9 : Class := { plain "java/lang/StringLatin1" (some 0) with
  accessFlags := 48
  interfaces := #[]
  cf := some (fileOf pool9 14 #[.nestMembers #[390, 221]] #[{ accessFlags := 0, nameIndex := 7, descriptorIndex := 8, attributes := #[] }, { accessFlags := 9, nameIndex := 90, descriptorIndex := 105, attributes := #[] }, { accessFlags := 9, nameIndex := 380, descriptorIndex := 382, attributes := #[] }] 48 4 #[] #[{ accessFlags := 4120, nameIndex := 121, descriptorIndex := 122, attributes := #[] }])
  fields := #[{ name := "$assertionsDisabled", type := .boolean, accessFlags := 4120, slot := 0, constantValue := 0 }]
  methods := #[k9m0, k9m1, k9m2]
  instanceTypes := #[]
  staticTypes := #[.boolean]
  resolved := Array.replicate 395 none
  statics := none }

def pool10 : Array CpInfo := pool [(2, .class_ 4), (1, u "java/lang/Enum"), (0, u "name"), (0, u "Ljava/lang/String;"), (2, u "ordinal"), (0, u "I"), (1, .class_ 14), (1, u "java/lang/Object"), (4, u "hash"), (86, .class_ 108), (1, u "java/lang/Enum$EnumDesc"), (2, .class_ 112), (0, u "java/lang/constant/Constable"), (0, .class_ 114), (0, u "java/lang/Comparable"), (0, .class_ 116), (0, u "java/io/Serializable")] 87

/-- java/lang/Enum -/
def k10 : Class := { plain "java/lang/Enum" (some 0) with
  accessFlags := 1057
  interfaces := #[6, 4, 3]
  cf := some (fileOf pool10 2 #[.nestMembers #[106]] #[] 1057 12 #[111, 113, 115] #[{ accessFlags := 18, nameIndex := 5, descriptorIndex := 6, attributes := #[] }, { accessFlags := 18, nameIndex := 9, descriptorIndex := 10, attributes := #[] }, { accessFlags := 2, nameIndex := 19, descriptorIndex := 10, attributes := #[] }])
  fields := #[{ name := "name", type := (.object "java/lang/String"), accessFlags := 18, slot := 0, constantValue := 0 }, { name := "ordinal", type := .int, accessFlags := 18, slot := 1, constantValue := 0 }, { name := "hash", type := .int, accessFlags := 2, slot := 2, constantValue := 0 }]
  methods := #[]
  instanceTypes := #[(.object "java/lang/String"), .int, .int]
  staticTypes := #[]
  resolved := Array.replicate 204 none
  statics := none }

def pool11 : Array CpInfo := pool [(1, .class_ 2), (0, u "com/example/kartoteka/kartoteka/format/LinkStatus"), (2, u "LINKED"), (0, u "Lcom/example/kartoteka/kartoteka/format/LinkStatus;"), (2, u "LINKED_DIFFERS"), (2, u "LINK_BROKEN"), (2, u "ACCEPTED"), (2, u "VARIANT"), (2, u "AMBIGUOUS"), (2, u "UNKNOWN"), (2, u "$VALUES"), (0, u "[Lcom/example/kartoteka/kartoteka/format/LinkStatus;"), (6, .class_ 37), (1, u "java/lang/Enum"), (8, u "statusName"), (0, u "Ljava/lang/String;"), (2, u "means")] 55

/-- com/example/kartoteka/kartoteka/format/LinkStatus -/
def k11 : Class := { plain "com/example/kartoteka/kartoteka/format/LinkStatus" (some 10) with
  accessFlags := 16433
  interfaces := #[]
  cf := some (fileOf pool11 1 #[] #[] 16433 35 #[] #[{ accessFlags := 16409, nameIndex := 5, descriptorIndex := 6, attributes := #[] }, { accessFlags := 16409, nameIndex := 9, descriptorIndex := 6, attributes := #[] }, { accessFlags := 16409, nameIndex := 12, descriptorIndex := 6, attributes := #[] }, { accessFlags := 16409, nameIndex := 15, descriptorIndex := 6, attributes := #[] }, { accessFlags := 16409, nameIndex := 18, descriptorIndex := 6, attributes := #[] }, { accessFlags := 16409, nameIndex := 21, descriptorIndex := 6, attributes := #[] }, { accessFlags := 16409, nameIndex := 24, descriptorIndex := 6, attributes := #[] }, { accessFlags := 18, nameIndex := 46, descriptorIndex := 47, attributes := #[] }, { accessFlags := 18, nameIndex := 50, descriptorIndex := 47, attributes := #[] }, { accessFlags := 4122, nameIndex := 27, descriptorIndex := 28, attributes := #[] }])
  fields := #[{ name := "LINKED", type := (.object "com/example/kartoteka/kartoteka/format/LinkStatus"), accessFlags := 16409, slot := 0, constantValue := 0 }, { name := "LINKED_DIFFERS", type := (.object "com/example/kartoteka/kartoteka/format/LinkStatus"), accessFlags := 16409, slot := 1, constantValue := 0 }, { name := "LINK_BROKEN", type := (.object "com/example/kartoteka/kartoteka/format/LinkStatus"), accessFlags := 16409, slot := 2, constantValue := 0 }, { name := "ACCEPTED", type := (.object "com/example/kartoteka/kartoteka/format/LinkStatus"), accessFlags := 16409, slot := 3, constantValue := 0 }, { name := "VARIANT", type := (.object "com/example/kartoteka/kartoteka/format/LinkStatus"), accessFlags := 16409, slot := 4, constantValue := 0 }, { name := "AMBIGUOUS", type := (.object "com/example/kartoteka/kartoteka/format/LinkStatus"), accessFlags := 16409, slot := 5, constantValue := 0 }, { name := "UNKNOWN", type := (.object "com/example/kartoteka/kartoteka/format/LinkStatus"), accessFlags := 16409, slot := 6, constantValue := 0 }, { name := "statusName", type := (.object "java/lang/String"), accessFlags := 18, slot := 3, constantValue := 0 }, { name := "means", type := (.object "java/lang/String"), accessFlags := 18, slot := 4, constantValue := 0 }, { name := "$VALUES", type := (.array (.object "com/example/kartoteka/kartoteka/format/LinkStatus")), accessFlags := 4122, slot := 7, constantValue := 0 }]
  methods := #[]
  instanceTypes := #[(.object "java/lang/String"), .int, .int, (.object "java/lang/String"), (.object "java/lang/String")]
  staticTypes := #[(.object "com/example/kartoteka/kartoteka/format/LinkStatus"), (.object "com/example/kartoteka/kartoteka/format/LinkStatus"), (.object "com/example/kartoteka/kartoteka/format/LinkStatus"), (.object "com/example/kartoteka/kartoteka/format/LinkStatus"), (.object "com/example/kartoteka/kartoteka/format/LinkStatus"), (.object "com/example/kartoteka/kartoteka/format/LinkStatus"), (.object "com/example/kartoteka/kartoteka/format/LinkStatus"), (.array (.object "com/example/kartoteka/kartoteka/format/LinkStatus"))]
  resolved := Array.replicate 106 none
  statics := some 1 }

def pool12 : Array CpInfo := pool [(2, .class_ 4), (1, u "java/lang/Object"), (0, u "<init>"), (0, u "()V"), (17, .class_ 26), (1, u "jdk/internal/util/Preconditions"), (28, .class_ 56), (0, u "jdk/internal/util/Preconditions$4"), (57, .class_ 115), (0, u "jdk/internal/util/Preconditions$1"), (7, u "SIOOBE_FORMATTER"), (0, u "Ljava/util/function/BiFunction;"), (0, .class_ 126), (0, u "jdk/internal/util/Preconditions$2"), (3, u "AIOOBE_FORMATTER"), (0, .class_ 132), (0, u "jdk/internal/util/Preconditions$3"), (3, u "IOOBE_FORMATTER")] 57

def k12m0 : Method := { name := "<init>", desc := "()V", sig := { parameters := [], returnType := none }, accessFlags := 1, code := none }
/-- jdk/internal/util/Preconditions -/
def k12 : Class := { plain "jdk/internal/util/Preconditions" (some 0) with
  accessFlags := 33
  interfaces := #[]
  cf := some (fileOf pool12 24 #[.nestMembers #[55, 131, 125, 114]] #[{ accessFlags := 1, nameIndex := 5, descriptorIndex := 6, attributes := #[] }] 33 2 #[] #[{ accessFlags := 25, nameIndex := 123, descriptorIndex := 124, attributes := #[] }, { accessFlags := 25, nameIndex := 130, descriptorIndex := 124, attributes := #[] }, { accessFlags := 25, nameIndex := 136, descriptorIndex := 124, attributes := #[] }])
  fields := #[{ name := "SIOOBE_FORMATTER", type := (.object "java/util/function/BiFunction"), accessFlags := 25, slot := 0, constantValue := 0 }, { name := "AIOOBE_FORMATTER", type := (.object "java/util/function/BiFunction"), accessFlags := 25, slot := 1, constantValue := 0 }, { name := "IOOBE_FORMATTER", type := (.object "java/util/function/BiFunction"), accessFlags := 25, slot := 2, constantValue := 0 }]
  methods := #[k12m0]
  instanceTypes := #[]
  staticTypes := #[(.object "java/util/function/BiFunction"), (.object "java/util/function/BiFunction"), (.object "java/util/function/BiFunction")]
  resolved := Array.replicate 194 none
  statics := some 2 }

def pool13 : Array CpInfo := pool [(9, u "<init>"), (6, .class_ 18), (1, u "java/lang/Object"), (0, u "()V"), (1, .class_ 23), (1, u "jdk/internal/util/ArraysSupport"), (0, u "LOG2_ARRAY_LONG_INDEX_SCALE"), (0, u "I"), (2, u "U"), (0, u "Ljdk/internal/misc/Unsafe;"), (8, u "BIG_ENDIAN"), (0, u "Z"), (8, u "LOG2_BYTE_BIT_SIZE"), (4, u "LOG2_ARRAY_INT_INDEX_SCALE"), (54, u "JLA"), (0, u "Ljdk/internal/access/JavaLangAccess;"), (11, u "LOG2_ARRAY_BOOLEAN_INDEX_SCALE"), (9, u "LOG2_ARRAY_BYTE_INDEX_SCALE"), (5, u "LOG2_ARRAY_CHAR_INDEX_SCALE"), (5, u "LOG2_ARRAY_SHORT_INDEX_SCALE"), (18, u "LOG2_ARRAY_FLOAT_INDEX_SCALE"), (24, u "LOG2_ARRAY_DOUBLE_INDEX_SCALE"), (89, u "T_BOOLEAN"), (2, u "T_CHAR"), (1, u "T_FLOAT"), (1, u "T_DOUBLE"), (1, u "T_BYTE"), (1, u "T_SHORT"), (1, u "T_INT"), (1, u "T_LONG"), (1, u "SOFT_MAX_ARRAY_LENGTH")] 83

def k13m0 : Method := { name := "<init>", desc := "()V", sig := { parameters := [], returnType := none }, accessFlags := 2, code := none }
/-- jdk/internal/util/ArraysSupport -/
def k13 : Class := { plain "jdk/internal/util/ArraysSupport" (some 0) with
  accessFlags := 33
  interfaces := #[]
  cf := some (fileOf pool13 21 #[] #[{ accessFlags := 2, nameIndex := 9, descriptorIndex := 19, attributes := #[] }] 33 16 #[] #[{ accessFlags := 24, nameIndex := 28, descriptorIndex := 29, attributes := #[] }, { accessFlags := 26, nameIndex := 38, descriptorIndex := 39, attributes := #[] }, { accessFlags := 25, nameIndex := 121, descriptorIndex := 25, attributes := #[] }, { accessFlags := 25, nameIndex := 131, descriptorIndex := 25, attributes := #[] }, { accessFlags := 25, nameIndex := 137, descriptorIndex := 25, attributes := #[] }, { accessFlags := 25, nameIndex := 143, descriptorIndex := 25, attributes := #[] }, { accessFlags := 25, nameIndex := 53, descriptorIndex := 25, attributes := #[] }, { accessFlags := 25, nameIndex := 24, descriptorIndex := 25, attributes := #[] }, { accessFlags := 25, nameIndex := 162, descriptorIndex := 25, attributes := #[] }, { accessFlags := 25, nameIndex := 187, descriptorIndex := 25, attributes := #[] }, { accessFlags := 26, nameIndex := 48, descriptorIndex := 25, attributes := #[] }, { accessFlags := 25, nameIndex := 277, descriptorIndex := 25, attributes := #[] }, { accessFlags := 25, nameIndex := 280, descriptorIndex := 25, attributes := #[] }, { accessFlags := 25, nameIndex := 282, descriptorIndex := 25, attributes := #[] }, { accessFlags := 25, nameIndex := 284, descriptorIndex := 25, attributes := #[] }, { accessFlags := 25, nameIndex := 286, descriptorIndex := 25, attributes := #[] }, { accessFlags := 25, nameIndex := 288, descriptorIndex := 25, attributes := #[] }, { accessFlags := 25, nameIndex := 290, descriptorIndex := 25, attributes := #[] }, { accessFlags := 25, nameIndex := 292, descriptorIndex := 25, attributes := #[] }, { accessFlags := 26, nameIndex := 108, descriptorIndex := 109, attributes := #[] }, { accessFlags := 25, nameIndex := 294, descriptorIndex := 25, attributes := #[] }])
  fields := #[{ name := "U", type := (.object "jdk/internal/misc/Unsafe"), accessFlags := 24, slot := 0, constantValue := 0 }, { name := "BIG_ENDIAN", type := .boolean, accessFlags := 26, slot := 1, constantValue := 0 }, { name := "LOG2_ARRAY_BOOLEAN_INDEX_SCALE", type := .int, accessFlags := 25, slot := 2, constantValue := 0 }, { name := "LOG2_ARRAY_BYTE_INDEX_SCALE", type := .int, accessFlags := 25, slot := 3, constantValue := 0 }, { name := "LOG2_ARRAY_CHAR_INDEX_SCALE", type := .int, accessFlags := 25, slot := 4, constantValue := 0 }, { name := "LOG2_ARRAY_SHORT_INDEX_SCALE", type := .int, accessFlags := 25, slot := 5, constantValue := 0 }, { name := "LOG2_ARRAY_INT_INDEX_SCALE", type := .int, accessFlags := 25, slot := 6, constantValue := 0 }, { name := "LOG2_ARRAY_LONG_INDEX_SCALE", type := .int, accessFlags := 25, slot := 7, constantValue := 0 }, { name := "LOG2_ARRAY_FLOAT_INDEX_SCALE", type := .int, accessFlags := 25, slot := 8, constantValue := 0 }, { name := "LOG2_ARRAY_DOUBLE_INDEX_SCALE", type := .int, accessFlags := 25, slot := 9, constantValue := 0 }, { name := "LOG2_BYTE_BIT_SIZE", type := .int, accessFlags := 26, slot := 10, constantValue := 0 }, { name := "T_BOOLEAN", type := .int, accessFlags := 25, slot := 11, constantValue := 0 }, { name := "T_CHAR", type := .int, accessFlags := 25, slot := 12, constantValue := 0 }, { name := "T_FLOAT", type := .int, accessFlags := 25, slot := 13, constantValue := 0 }, { name := "T_DOUBLE", type := .int, accessFlags := 25, slot := 14, constantValue := 0 }, { name := "T_BYTE", type := .int, accessFlags := 25, slot := 15, constantValue := 0 }, { name := "T_SHORT", type := .int, accessFlags := 25, slot := 16, constantValue := 0 }, { name := "T_INT", type := .int, accessFlags := 25, slot := 17, constantValue := 0 }, { name := "T_LONG", type := .int, accessFlags := 25, slot := 18, constantValue := 0 }, { name := "JLA", type := (.object "jdk/internal/access/JavaLangAccess"), accessFlags := 26, slot := 19, constantValue := 0 }, { name := "SOFT_MAX_ARRAY_LENGTH", type := .int, accessFlags := 25, slot := 20, constantValue := 0 }]
  methods := #[k13m0]
  instanceTypes := #[]
  staticTypes := #[(.object "jdk/internal/misc/Unsafe"), .boolean, .int, .int, .int, .int, .int, .int, .int, .int, .int, .int, .int, .int, .int, .int, .int, .int, .int, (.object "jdk/internal/access/JavaLangAccess"), .int]
  resolved := Array.replicate 378 none
  statics := none }

def pool14 : Array CpInfo := pool [(1, u "java/lang/Cloneable"), (0, .class_ 1), (0, u "java/lang/Object"), (0, .class_ 3)] 3

/-- java/lang/Cloneable -/
def k14 : Class := { plain "java/lang/Cloneable" (some 0) with
  accessFlags := 1537
  interfaces := #[]
  cf := some (fileOf pool14 2 #[] #[] 1537 4 #[] #[])
  fields := #[]
  methods := #[]
  instanceTypes := #[]
  staticTypes := #[]
  resolved := Array.replicate 8 none
  statics := none }

/-- the primitive byte -/
def k15 : Class := { plain "byte" none with kind := .primitive 'B', accessFlags := 0x411 }
/-- [B -/
def k16 : Class := { plain "[B" (some 0) with kind := .array 15 .byte, interfaces := #[14, 3], accessFlags := 1041 }

/-- the primitive int -/
def k17 : Class := { plain "int" none with kind := .primitive 'I', accessFlags := 0x411 }
/-- [I -/
def k18 : Class := { plain "[I" (some 0) with kind := .array 17 .int, interfaces := #[14, 3], accessFlags := 1041 }

def heap : Heap := #[{ cls := 8, slots := #[.long 0, .int 1, .null, .int 0, .null, .int 0, .int 0], vm := .statics 8 },
  { cls := 11, slots := #[.ref 9, .ref 8, .ref 3, .ref 5, .ref 6, .ref 7, .ref 4, .null], vm := .statics 11 },
  { cls := 12, slots := #[.null, .null, .null], vm := .statics 12 },
  { cls := 11, slots := #[.null, .int 0, .int 0, .null, .null], vm := .none },
  { cls := 11, slots := #[.null, .int 0, .int 0, .null, .null], vm := .none },
  { cls := 11, slots := #[.null, .int 0, .int 0, .null, .null], vm := .none },
  { cls := 11, slots := #[.null, .int 0, .int 0, .null, .null], vm := .none },
  { cls := 11, slots := #[.null, .int 0, .int 0, .null, .null], vm := .none },
  { cls := 11, slots := #[.null, .int 0, .int 0, .null, .null], vm := .none },
  { cls := 11, slots := #[.null, .int 0, .int 0, .null, .null], vm := .none }]
def classes : Array Class := #[k0, k1, k2, k3, k4, k5, k6, k7, k8, k9, k10, k11, k12, k13, k14, k15, k16, k17, k18]
def interned : List (Array UInt16 × Addr) := []
def slotsUsed : Nat := 53
def theMethod : MethodId := ⟨1, 4⟩
def args0 : Array Value := #[.int 5, .int 3, .int 65, .int 5, .int 6]
def aboutOver (below : List Frame) : State where
  vm := { classes := classes, interned := interned.toArray }
  heap := heap
  slotsUsed := slotsUsed
  threads := #[{ frames := .invoking theMethod args0 :: below }]
def below0 : List Frame := [.native { method := ⟨0, 0⟩, args := #[] }]
def about1 : State := aboutOver below0
def p0 : Program := .bare "" "" ""
def e0 : Env := launch0.env 0 0 0
theorem w_frames : about1.frames = Frame.invoking theMethod args0 :: below0 := rfl
set_option maxRecDepth 65536 in
theorem w_args : argsFit about1.vm theMethod args0 = true := by decide +kernel
set_option maxRecDepth 65536 in
theorem w_heap : heapFits about1 = true := by decide +kernel
set_option maxRecDepth 65536 in
theorem w_runnable : about1.curStatus? = some .runnable := by decide +kernel
set_option maxRecDepth 65536 in
theorem w_alone : about1.alone = true := by decide +kernel
set_option maxRecDepth 65536 in
theorem w_named : about1.methodNamed? x = some theMethod := by decide +kernel
set_option maxRecDepth 65536 in
theorem w_hears : about1.hears theMethod below0 = true := by decide +kernel
set_option maxRecDepth 65536 in
theorem w_ripe : about1.ripe theMethod args0 below0 = true := by decide +kernel
theorem w_running : about1.status = .running := rfl
set_option maxRecDepth 65536 in
theorem w_room : about1.hasRoom e0.platform room_1 = true :=
  launch0.hasRoom_least _ room_1 (by decide +kernel) (by decide +kernel) (by decide +kernel) (by decide +kernel) (by decide +kernel) (by decide +kernel)
theorem allAtoms_all (ts : List Jvm.Cond) (a : Array Jvm.Value) (st : Jvm.State) : (allAtoms ts).before a st = ts.all (fun c => c.before a st) := by
  induction ts with
  | nil => rfl
  | cons c t ih =>
    show (Jvm.Cond.and c (allAtoms t)).before a st = _
    rw [Jvm.Cond.before_and, ih, List.all_cons]
def words1 : List Jvm.Cond := Jvm.Cond.code x code maxLocals ret :: tables_1
/-- a 'code' word, met by the world's own term for the bytes: nothing is compared byte by byte -/
theorem code_word {y : MethodName} {bytes : ByteArray} {mx : Nat} {rt : Option FieldType} {a : Array Value} {s : State} {m : MethodId} {meth : Method} {c : Code} (h1 : s.methodNamed? y = some m) (h2 : s.vm.method? m = some meth) (h3 : meth.code = some c) (h4 : c.code = bytes)
    (h5 : (c.maxLocals == mx && c.exceptionTable.isEmpty && decide (c.maxStack ≤ mostOperands) && decide (meth.sig.returnType = rt) && !meth.locks && decide (parseMethodDescriptor y.desc = some meth.sig)) = true) : (Jvm.Cond.code y bytes mx rt).before a s = true := by
  simp only [Bool.and_eq_true, beq_iff_eq, Bool.not_eq_true', decide_eq_true_eq] at h5
  obtain ⟨⟨⟨⟨⟨g1, g2⟩, g3⟩, g4⟩, g5⟩, g6⟩ := h5
  simp [Cond.before, Cond.holds, Cond.value, h1, h2, h3, h4, g1, g2, g3, g4, g5, g6]
def isCode : Jvm.Cond → Bool
  | .code _ _ _ _ => true
  | _ => false
theorem all_split {L : List Jvm.Cond} {P : Jvm.Cond → Bool} (h1 : L.all (fun c => isCode c || P c) = true) (h2 : ∀ c ∈ L.filter isCode, P c = true) : L.all P = true := by
  refine List.all_eq_true.mpr fun c hc => ?_
  have h := List.all_eq_true.mp h1 c hc
  rcases Bool.eq_false_or_eq_true (isCode c) with hi | hi
  · exact h2 c (List.mem_filter.mpr ⟨hc, hi⟩)
  · simpa [hi] using h
set_option maxRecDepth 65536 in
theorem w_c0 : (Jvm.Cond.code x code maxLocals ret).before args0 about1 = true := code_word (m := ⟨1, 4⟩) (meth := k1m4) (c := k1c4) (by decide +kernel) rfl rfl rfl (by decide +kernel)
set_option maxRecDepth 65536 in
theorem w_c1 : (Jvm.Cond.code ({ cls := "com/example/kartoteka/kartoteka/format/HeadingLink", name := "<init>", desc := "(Lcom/example/kartoteka/kartoteka/format/AuthorityFile;)V" } : Jvm.MethodName) prog_43_method_1_code (2 : Nat) (Option.none : Option Jvm.ClassFile.FieldType)).before args0 about1 = true := code_word (m := ⟨2, 0⟩) (meth := k2m0) (c := k2c0) (by decide +kernel) rfl rfl rfl (by decide +kernel)
set_option maxRecDepth 65536 in
theorem w_c2 : (Jvm.Cond.code ({ cls := "java/lang/Object", name := "<init>", desc := "()V" } : Jvm.MethodName) object_method_1_code (1 : Nat) (Option.none : Option Jvm.ClassFile.FieldType)).before args0 about1 = true := code_word (m := ⟨0, 0⟩) (meth := k0m0) (c := k0c0) (by decide +kernel) rfl rfl rfl (by decide +kernel)
set_option maxRecDepth 65536 in
theorem w_c3 : (Jvm.Cond.code ({ cls := "com/example/kartoteka/kartoteka/format/HeadingLinkAuthoritiesPinLaw", name := "step", desc := "(Lcom/example/kartoteka/kartoteka/format/HeadingLink;IIII)I" } : Jvm.MethodName) method_4_code (10 : Nat) (Option.some Jvm.ClassFile.FieldType.int)).before args0 about1 = true := code_word (m := ⟨1, 3⟩) (meth := k1m3) (c := k1c3) (by decide +kernel) rfl rfl rfl (by decide +kernel)
set_option maxRecDepth 65536 in
theorem w_c4 : (Jvm.Cond.code ({ cls := "com/example/kartoteka/kartoteka/format/HeadingLinkAuthoritiesPinLaw", name := "indexes", desc := "(III)[I" } : Jvm.MethodName) method_2_code (3 : Nat) (Option.some (Jvm.ClassFile.FieldType.array Jvm.ClassFile.FieldType.int))).before args0 about1 = true := code_word (m := ⟨1, 1⟩) (meth := k1m1) (c := k1c1) (by decide +kernel) rfl rfl rfl (by decide +kernel)
set_option maxRecDepth 65536 in
theorem w_c5 : (Jvm.Cond.code ({ cls := "com/example/kartoteka/kartoteka/format/HeadingLink", name := "heading", desc := "(Ljava/lang/String;I)V" } : Jvm.MethodName) prog_43_method_8_code (3 : Nat) (Option.none : Option Jvm.ClassFile.FieldType)).before args0 about1 = true := code_word (m := ⟨2, 2⟩) (meth := k2m2) (c := k2c2) (by decide +kernel) rfl rfl rfl (by decide +kernel)
set_option maxRecDepth 65536 in
theorem w_c6 : (Jvm.Cond.code ({ cls := "java/lang/String", name := "valueOf", desc := "(C)Ljava/lang/String;" } : Jvm.MethodName) jdk_42_method_139_code (1 : Nat) (Option.some (Jvm.ClassFile.FieldType.object "java/lang/String"))).before args0 about1 = true := code_word (m := ⟨8, 1⟩) (meth := k8m1) (c := k8c1) (by decide +kernel) rfl rfl rfl (by decide +kernel)
set_option maxRecDepth 65536 in
theorem w_c7 : (Jvm.Cond.code ({ cls := "java/lang/StringLatin1", name := "canEncode", desc := "(C)Z" } : Jvm.MethodName) jdk_43_method_3_code (1 : Nat) (Option.some Jvm.ClassFile.FieldType.boolean)).before args0 about1 = true := code_word (m := ⟨9, 1⟩) (meth := k9m1) (c := k9c1) (by decide +kernel) rfl rfl rfl (by decide +kernel)
set_option maxRecDepth 65536 in
theorem w_c8 : (Jvm.Cond.code ({ cls := "java/lang/StringLatin1", name := "toBytes", desc := "(C)[B" } : Jvm.MethodName) jdk_43_method_46_code (1 : Nat) (Option.some (Jvm.ClassFile.FieldType.array Jvm.ClassFile.FieldType.byte))).before args0 about1 = true := code_word (m := ⟨9, 2⟩) (meth := k9m2) (c := k9c2) (by decide +kernel) rfl rfl rfl (by decide +kernel)
set_option maxRecDepth 65536 in
theorem w_c9 : (Jvm.Cond.code ({ cls := "java/lang/String", name := "<init>", desc := "([BB)V" } : Jvm.MethodName) jdk_42_method_151_code (3 : Nat) (Option.none : Option Jvm.ClassFile.FieldType)).before args0 about1 = true := code_word (m := ⟨8, 2⟩) (meth := k8m2) (c := k8c2) (by decide +kernel) rfl rfl rfl (by decide +kernel)
set_option maxRecDepth 65536 in
theorem w_c10 : (Jvm.Cond.code ({ cls := "com/example/kartoteka/kartoteka/format/HeadingLink", name := "broken", desc := "(Ljava/lang/CharSequence;)V" } : Jvm.MethodName) prog_43_method_9_code (2 : Nat) (Option.none : Option Jvm.ClassFile.FieldType)).before args0 about1 = true := code_word (m := ⟨2, 3⟩) (meth := k2m3) (c := k2c3) (by decide +kernel) rfl rfl rfl (by decide +kernel)
set_option maxRecDepth 65536 in
theorem w_c11 : (Jvm.Cond.code ({ cls := "com/example/kartoteka/kartoteka/format/HeadingLink", name := "authorities", desc := "()I" } : Jvm.MethodName) prog_43_method_5_code (1 : Nat) (Option.some Jvm.ClassFile.FieldType.int)).before args0 about1 = true := code_word (m := ⟨2, 1⟩) (meth := k2m1) (c := k2c1) (by decide +kernel) rfl rfl rfl (by decide +kernel)
set_option maxRecDepth 65536 in
theorem w_c12 : (Jvm.Cond.code ({ cls := "com/example/kartoteka/kartoteka/format/HeadingLink", name := "unknown", desc := "()V" } : Jvm.MethodName) prog_43_method_12_code (1 : Nat) (Option.none : Option Jvm.ClassFile.FieldType)).before args0 about1 = true := code_word (m := ⟨2, 6⟩) (meth := k2m6) (c := k2c6) (by decide +kernel) rfl rfl rfl (by decide +kernel)
set_option maxRecDepth 65536 in
theorem w_c13 : (Jvm.Cond.code ({ cls := "com/example/kartoteka/kartoteka/format/HeadingLink", name := "found", desc := "(Lcom/example/kartoteka/kartoteka/format/LinkStatus;[I)V" } : Jvm.MethodName) prog_43_method_11_code (3 : Nat) (Option.none : Option Jvm.ClassFile.FieldType)).before args0 about1 = true := code_word (m := ⟨2, 5⟩) (meth := k2m5) (c := k2c5) (by decide +kernel) rfl rfl rfl (by decide +kernel)
set_option maxRecDepth 65536 in
theorem w_c14 : (Jvm.Cond.code ({ cls := "com/example/kartoteka/kartoteka/format/HeadingLink", name := "found", desc := "(Lcom/example/kartoteka/kartoteka/format/LinkStatus;I)V" } : Jvm.MethodName) prog_43_method_10_code (3 : Nat) (Option.none : Option Jvm.ClassFile.FieldType)).before args0 about1 = true := code_word (m := ⟨2, 4⟩) (meth := k2m4) (c := k2c4) (by decide +kernel) rfl rfl rfl (by decide +kernel)
set_option maxRecDepth 65536 in
theorem w_c15 : (Jvm.Cond.code ({ cls := "com/example/kartoteka/kartoteka/format/HeadingLinkAuthoritiesPinLaw", name := "single", desc := "(I)Lcom/example/kartoteka/kartoteka/format/LinkStatus;" } : Jvm.MethodName) method_3_code (1 : Nat) (Option.some (Jvm.ClassFile.FieldType.object "com/example/kartoteka/kartoteka/format/LinkStatus"))).before args0 about1 = true := code_word (m := ⟨1, 2⟩) (meth := k1m2) (c := k1c2) (by decide +kernel) rfl rfl rfl (by decide +kernel)
def codes1 : List Jvm.Cond := [Jvm.Cond.code x code maxLocals ret, Jvm.Cond.code ({ cls := "com/example/kartoteka/kartoteka/format/HeadingLink", name := "<init>", desc := "(Lcom/example/kartoteka/kartoteka/format/AuthorityFile;)V" } : Jvm.MethodName) prog_43_method_1_code (2 : Nat) (Option.none : Option Jvm.ClassFile.FieldType), Jvm.Cond.code ({ cls := "java/lang/Object", name := "<init>", desc := "()V" } : Jvm.MethodName) object_method_1_code (1 : Nat) (Option.none : Option Jvm.ClassFile.FieldType), Jvm.Cond.code ({ cls := "com/example/kartoteka/kartoteka/format/HeadingLinkAuthoritiesPinLaw", name := "step", desc := "(Lcom/example/kartoteka/kartoteka/format/HeadingLink;IIII)I" } : Jvm.MethodName) method_4_code (10 : Nat) (Option.some Jvm.ClassFile.FieldType.int), Jvm.Cond.code ({ cls := "com/example/kartoteka/kartoteka/format/HeadingLinkAuthoritiesPinLaw", name := "indexes", desc := "(III)[I" } : Jvm.MethodName) method_2_code (3 : Nat) (Option.some (Jvm.ClassFile.FieldType.array Jvm.ClassFile.FieldType.int)), Jvm.Cond.code ({ cls := "com/example/kartoteka/kartoteka/format/HeadingLink", name := "heading", desc := "(Ljava/lang/String;I)V" } : Jvm.MethodName) prog_43_method_8_code (3 : Nat) (Option.none : Option Jvm.ClassFile.FieldType), Jvm.Cond.code ({ cls := "java/lang/String", name := "valueOf", desc := "(C)Ljava/lang/String;" } : Jvm.MethodName) jdk_42_method_139_code (1 : Nat) (Option.some (Jvm.ClassFile.FieldType.object "java/lang/String")), Jvm.Cond.code ({ cls := "java/lang/StringLatin1", name := "canEncode", desc := "(C)Z" } : Jvm.MethodName) jdk_43_method_3_code (1 : Nat) (Option.some Jvm.ClassFile.FieldType.boolean), Jvm.Cond.code ({ cls := "java/lang/StringLatin1", name := "toBytes", desc := "(C)[B" } : Jvm.MethodName) jdk_43_method_46_code (1 : Nat) (Option.some (Jvm.ClassFile.FieldType.array Jvm.ClassFile.FieldType.byte)), Jvm.Cond.code ({ cls := "java/lang/String", name := "<init>", desc := "([BB)V" } : Jvm.MethodName) jdk_42_method_151_code (3 : Nat) (Option.none : Option Jvm.ClassFile.FieldType), Jvm.Cond.code ({ cls := "com/example/kartoteka/kartoteka/format/HeadingLink", name := "broken", desc := "(Ljava/lang/CharSequence;)V" } : Jvm.MethodName) prog_43_method_9_code (2 : Nat) (Option.none : Option Jvm.ClassFile.FieldType), Jvm.Cond.code ({ cls := "com/example/kartoteka/kartoteka/format/HeadingLink", name := "authorities", desc := "()I" } : Jvm.MethodName) prog_43_method_5_code (1 : Nat) (Option.some Jvm.ClassFile.FieldType.int), Jvm.Cond.code ({ cls := "com/example/kartoteka/kartoteka/format/HeadingLink", name := "unknown", desc := "()V" } : Jvm.MethodName) prog_43_method_12_code (1 : Nat) (Option.none : Option Jvm.ClassFile.FieldType), Jvm.Cond.code ({ cls := "com/example/kartoteka/kartoteka/format/HeadingLink", name := "found", desc := "(Lcom/example/kartoteka/kartoteka/format/LinkStatus;[I)V" } : Jvm.MethodName) prog_43_method_11_code (3 : Nat) (Option.none : Option Jvm.ClassFile.FieldType), Jvm.Cond.code ({ cls := "com/example/kartoteka/kartoteka/format/HeadingLink", name := "found", desc := "(Lcom/example/kartoteka/kartoteka/format/LinkStatus;I)V" } : Jvm.MethodName) prog_43_method_10_code (3 : Nat) (Option.none : Option Jvm.ClassFile.FieldType), Jvm.Cond.code ({ cls := "com/example/kartoteka/kartoteka/format/HeadingLinkAuthoritiesPinLaw", name := "single", desc := "(I)Lcom/example/kartoteka/kartoteka/format/LinkStatus;" } : Jvm.MethodName) method_3_code (1 : Nat) (Option.some (Jvm.ClassFile.FieldType.object "com/example/kartoteka/kartoteka/format/LinkStatus"))]
set_option maxRecDepth 65536 in
theorem codes_eq : words1.filter isCode = codes1 := rfl
theorem w_codes : ∀ c ∈ words1.filter isCode, c.before args0 about1 = true := by
  rw [codes_eq]
  intro c hc
  simp only [codes1, List.mem_cons, List.not_mem_nil, or_false] at hc
  rcases hc with rfl | rfl | rfl | rfl | rfl | rfl | rfl | rfl | rfl | rfl | rfl | rfl | rfl | rfl | rfl | rfl
  · exact w_c0
  · exact w_c1
  · exact w_c2
  · exact w_c3
  · exact w_c4
  · exact w_c5
  · exact w_c6
  · exact w_c7
  · exact w_c8
  · exact w_c9
  · exact w_c10
  · exact w_c11
  · exact w_c12
  · exact w_c13
  · exact w_c14
  · exact w_c15
set_option maxRecDepth 65536 in
theorem w_t1 : (words1.take 24).all (fun c => isCode c || c.before args0 about1) = true := by decide +kernel
set_option maxRecDepth 65536 in
theorem w_t2 : ((words1.drop 24).take 24).all (fun c => isCode c || c.before args0 about1) = true := by decide +kernel
set_option maxRecDepth 65536 in
theorem w_t3 : (((words1.drop 24).drop 24).take 24).all (fun c => isCode c || c.before args0 about1) = true := by decide +kernel
set_option maxRecDepth 65536 in
theorem w_t4 : ((((words1.drop 24).drop 24).drop 24).take 24).all (fun c => isCode c || c.before args0 about1) = true := by decide +kernel
set_option maxRecDepth 65536 in
theorem w_t5 : ((((words1.drop 24).drop 24).drop 24).drop 24).all (fun c => isCode c || c.before args0 about1) = true := by decide +kernel
theorem w_tables : (allAtoms (Jvm.Cond.code x code maxLocals ret :: tables_1)).before args0 about1 = true := by
  rw [allAtoms_all]
  show words1.all (fun c => c.before args0 about1) = true
  refine all_split ?_ w_codes
  rw [← List.take_append_drop 24 words1, List.all_append, w_t1, ← List.take_append_drop 24 (words1.drop 24), List.all_append, w_t2, ← List.take_append_drop 24 ((words1.drop 24).drop 24), List.all_append, w_t3, ← List.take_append_drop 24 (((words1.drop 24).drop 24).drop 24), List.all_append, w_t4, w_t5]
  rfl
set_option maxRecDepth 65536 in
theorem w_rest : rest_1_c.before args0 about1 = true := by decide +kernel
set_option maxRecDepth 65536 in
theorem w_case : (Jvm.Cond.and given_1 narrow_1).before args0 about1 = true := by decide +kernel
theorem w_applies : (headSpec (Jvm.Cond.code x code maxLocals ret :: tables_1) room_1).applies x e0.platform about1 = true :=
  (Spec.applies_iff w_frames).mpr ⟨w_running, w_runnable, w_alone, w_named, w_hears, w_ripe, w_room, w_tables⟩
theorem atStart : AtStart classFile x code maxLocals ret World_1 tables_1 room_1 Calls_1 rest_1 Pre_1 launch0 p0 e0 about1 theMethod args0 below0 :=
  ⟨lists_1, trivial, launch0.admits_env _ _ _, launch0.least_env, fairChoices_fair.cas, fairChoices_fair.clock, w_frames, w_args, w_heap, w_applies, trivial, w_rest, w_case⟩
end start1
theorem witness_1 : WitnessClaimed_1 := ⟨start1.p0, start1.e0, start1.about1, start1.theMethod, start1.args0, start1.below0, start1.atStart⟩
end Jvm.Pilot.@@N@@
